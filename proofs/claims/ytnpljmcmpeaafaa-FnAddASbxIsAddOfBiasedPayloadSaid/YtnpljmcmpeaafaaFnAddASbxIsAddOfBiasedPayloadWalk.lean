/- The walk of FnAddASbxIsAddOfBiasedPayload. -/
import Derived.Test.YtnpljmcmpeaafaaCodeFnC106
namespace Go.Proofs.Ytnpljmcmpeaafaa.fnAddASbxIsAddOfBiasedPayload
open Go.RowKit
set_option linter.unusedVariables false

set_option maxHeartbeats 400000 in
theorem bytes_no (a0 : Option Addr) (len0 cap0 : Nat) (a1 : Option Addr) (len1 cap1 : Nat) (a2 : Int) (a3 : Int) (a4 : Int) (a5 : Int) (a6 : Int) (w : World) (h : 1048576 < len0 + len1) (hm : len0 ≤ maxLen) (hm1 : len1 ≤ maxLen) :
    Calls Try.prog 37 #[.slice a0 len0 cap0, .slice a1 len1 cap1, .int .i64 a2, .int .i64 a3, .int .i64 a4, .int .i64 a5, .int .i64 a6] w fun e w' => e = .returned (.bool false) ∧ w = w' := by
  unfold maxLen at hm hm1
  by_cases h0 : 1048576 < len0
  · go_enter Try.func37, Try.ntmps37
    go_wp2
    go_ret
    exact ⟨rfl, rfl⟩
  by_cases h1 : 1048576 < len1
  · go_enter Try.func37, Try.ntmps37
    go_wp2
    go_ret
    exact ⟨rfl, rfl⟩
  go_enter Try.func37, Try.ntmps37
  go_wp2
  go_ret
  exact ⟨rfl, rfl⟩
set_option maxHeartbeats 400000 in
theorem bytes_yes (a0 : Option Addr) (len0 cap0 : Nat) (a1 : Option Addr) (len1 cap1 : Nat) (a2 : Int) (a3 : Int) (a4 : Int) (a5 : Int) (a6 : Int) (w : World) (h : len0 + len1 ≤ 1048576) :
    Calls Try.prog 37 #[.slice a0 len0 cap0, .slice a1 len1 cap1, .int .i64 a2, .int .i64 a3, .int .i64 a4, .int .i64 a5, .int .i64 a6] w fun e w' => e = .returned (.bool true) ∧ w = w' := by
  go_enter Try.func37, Try.ntmps37
  go_wp2
  go_ret
  exact ⟨rfl, rfl⟩

set_option maxHeartbeats 4000000 in
set_option maxRecDepth 100000 in
theorem walk (a0 : Option Addr) (len0 cap0 : Nat) (z0 : List Int) (a1 : Option Addr) (len1 cap1 : Nat) (z1 : List Int) (a2 : Int) (a3 : Int) (a4 : Int) (a5 : Int) (a6 : Int) (w : World) (w0 : IsRow .u32 w a0 len0 cap0 z0) (w1 : IsRow .i64 w a1 len1 cap1 z1) (w2 : (Lit.int .i64 a2).wf = true) (w3 : (Lit.int .i64 a3).wf = true) (w4 : (Lit.int .i64 a4).wf = true) (w5 : (Lit.int .i64 a5).wf = true) (w6 : (Lit.int .i64 a6).wf = true) :
    Calls Try.prog 9 #[.slice a0 len0 cap0, .slice a1 len1 cap1, .int .i64 a2, .int .i64 a3, .int .i64 a4, .int .i64 a5, .int .i64 a6] w fun e w' => e = .returned (.bool true) ∧ Below w.heap.size w w' := by
  have hl0 := (InRow.len_le w0).2
  have hl1 := (InRow.len_le w1).2
  have hz0 := (InRow.len_le w0).1
  have hz1 := (InRow.len_le w1).1
  by_cases hb : 1048576 < len0 + len1
  · clear w0 w1
    go_enter Try.func9, Try.ntmps9
    go_wp2_with fail
    refine (bytes_no a0 len0 cap0 a1 len1 cap1 a2 a3 a4 a5 a6 _ hb hl0 hl1).mono ?_; rintro e u1 ⟨rfl, rfl⟩
    go_wp2
    go_ret
    exact ⟨rfl, Below.refl _ _⟩
  have hb' : len0 + len1 ≤ 1048576 := by omega
  by_cases hc0 : 65536 < len0
  · clear w0 w1 hl0 hl1 hb hz0 hz1
    go_enter Try.func9, Try.ntmps9
    go_wp2_with fail
    refine (bytes_yes a0 len0 cap0 a1 len1 cap1 a2 a3 a4 a5 a6 _ hb').mono ?_; rintro e u1 ⟨rfl, rfl⟩
    go_wp2
    go_ret
    exact ⟨rfl, Below.refl _ _⟩
  by_cases hc1 : 65536 < len1
  · clear w0 w1 hl0 hl1 hb hz0 hz1
    go_enter Try.func9, Try.ntmps9
    go_wp2_with fail
    refine (bytes_yes a0 len0 cap0 a1 len1 cap1 a2 a3 a4 a5 a6 _ hb').mono ?_; rintro e u1 ⟨rfl, rfl⟩
    go_wp2
    go_ret
    exact ⟨rfl, Below.refl _ _⟩
  have hc2 : ¬ (1048576 < 8 * len0 + 8 * len1) := by omega
  by_cases hc3 : len0 ≠ len1
  · have hq : ((len0 : Int) == (len1 : Int)) = false := by simp; omega
    have hq2 : ¬ ((len0 : Int) = (len1 : Int)) := by omega
    clear w0 w1 hl0 hl1 hb hz0 hz1
    go_enter Try.func9, Try.ntmps9
    go_wp2_with fail
    refine (bytes_yes a0 len0 cap0 a1 len1 cap1 a2 a3 a4 a5 a6 _ hb').mono ?_; rintro e u1 ⟨rfl, rfl⟩
    go_wp2
    go_ret
    exact ⟨rfl, Below.refl _ _⟩
  have hc6 : len0 = len1 := by omega
  subst hc6
  by_cases hc4 : a2 < 0
  · clear w0 w1 hl0 hl1 hb hz0 hz1
    go_enter Try.func9, Try.ntmps9
    go_wp2_with fail
    refine (bytes_yes a0 len0 cap0 a1 len0 cap1 a2 a3 a4 a5 a6 _ hb').mono ?_; rintro e u1 ⟨rfl, rfl⟩
    go_wp2
    go_ret
    exact ⟨rfl, Below.refl _ _⟩
  by_cases hc5 : (len0 : Int) < a2
  · clear w0 w1 hl0 hl1 hb hz0 hz1
    go_enter Try.func9, Try.ntmps9
    go_wp2_with fail
    refine (bytes_yes a0 len0 cap0 a1 len0 cap1 a2 a3 a4 a5 a6 _ hb').mono ?_; rintro e u1 ⟨rfl, rfl⟩
    go_wp2
    go_ret
    exact ⟨rfl, Below.refl _ _⟩
  obtain ⟨pc, rfl⟩ := Int.eq_ofNat_of_zero_le (show 0 ≤ a2 by omega)
  have hpc : pc ≤ len0 := by omega
  obtain ⟨cs, hcs⟩ : ∃ l, l = z0.take len0 := ⟨_, rfl⟩
  obtain ⟨ls, hls⟩ : ∃ l, l = z1.take len0 := ⟨_, rfl⟩
  have hcl : cs.length = len0 := by rw [hcs]; simp; omega
  have hll : ls.length = len0 := by rw [hls]; simp; omega
  have hn16 : len0 ≤ 65536 := by omega
  have hn17 : len0 ≤ 131072 := by omega
  have cpU := copyU a0 len0 cap0 z0 cs w hcs hn17 w0
  have cpI := fun (u : World) (hu : Below w.heap.size w u) => copyI a1 len0 cap1 z1 ls u hls hn17 (InRow.keep w1 hu)
  have CU := Lib.hid cpU
  have CI := Lib.hid cpI
  have HCL := Lib.hid hcl
  have HLL := Lib.hid hll
  clear hcs hls hcl hll cpU cpI w0 w1 hl0 hl1 hz0 hz1 hc0 hc1 hc4 hc5 w2 hb
  have b6 : ¬ ((pc : Int) < 0) := by omega
  have b7 : ¬ ((len0 : Int) < (pc : Int)) := by omega
  go_enter Try.func9, Try.ntmps9
  go_wp2_with fail
  refine (bytes_yes a0 len0 cap0 a1 len0 cap1 pc a3 a4 a5 a6 _ hb').mono ?_; rintro e u0 ⟨rfl, rfl⟩
  go_wp2_with fail
  refine CU.out.mono ?_; rintro e u1 ⟨p, rfl, ip, _, h1⟩
  have IP1 := Lib.hid ip
  have H1 := Lib.hid h1
  clear ip h1
  go_wp2_with fail
  refine (CI.out _ H1.out).mono ?_; rintro e u2 ⟨r, rfl, ir, _, h2⟩
  have IP := Lib.hid (InRow.keep IP1.out h2)
  have IR := Lib.hid ir
  have H2 := Lib.hid (H1.out.trans (h2.mono H1.out.size))
  clear ir h2
  have hm1 : 0 ≤ a5 % 262144 ∧ a5 % 262144 < 262144 := by omega
  go_wp2_with fail
  refine (emod_any a5 262144 w5 (by omega) (by omega) _).mono ?_; rintro e ud ⟨rfl, rfl⟩
  go_wp2_with fail
  refine (emod_any _ 262144 (WalkArith.wf_i64 (by omega)) (by omega) (by omega) _).mono ?_; rintro e ud ⟨rfl, rfl⟩
  go_wp2_with fail
  refine (encode_any a3 a4 _ w3 w4 (by omega) (by omega) _).mono ?_; rintro e ud ⟨rfl, rfl⟩
  go_wp2_with fail
  refine (recopyU p len0 cs _ HCL.out hn17 IP.out).mono ?_; rintro e va ⟨q1, rfl, _, o1, h1⟩
  have O1 := Lib.hid o1
  have H1a := Lib.hid h1
  clear o1 h1
  go_wp2_with fail
  refine (recopyI r len0 ls _ HLL.out hn17 (InRow.keep IR.out H1a.out)).mono ?_; rintro e vb ⟨q2, rfl, _, o2, h2⟩
  have O2 := Lib.hid o2
  have H2a := Lib.hid h2
  clear o2 h2
  go_wp2_with fail
  refine (new_of cs ls len0 q1 q2 pc _ _ _ HCL.out HLL.out O1.out O2.out H1a.out H2a.out).mono ?_; rintro e vc ⟨s1, rfl, hs, hb⟩
  have S1 := Lib.hid hs
  have B1 := Lib.hid hb
  clear hs hb O1 O2 H1a H2a
  go_wp2_with fail
  refine (AddASbx_any s1 u2.heap.size cs ls pc a3 a4 a5 a6 _ S1.out (by rw [HCL.out]; exact hpc) (by rw [HCL.out, HLL.out]) (by rw [HCL.out]; exact hn17)).mono ?_; rintro e u3 ⟨rfl, hs, hb⟩
  have S2 := Lib.hid hs
  have B2 := Lib.hid (B1.out.trans hb)
  clear hs hb
  go_wp2_with fail
  refine (recopyU p len0 cs _ HCL.out hn17 (InRow.keep IP.out B2.out)).mono ?_; rintro e xa ⟨q1, rfl, _, o1, h1⟩
  have O1 := Lib.hid o1
  have H1a := Lib.hid h1
  clear o1 h1
  go_wp2_with fail
  refine (recopyI r len0 ls _ HLL.out hn17 (InRow.keep (InRow.keep IR.out B2.out) H1a.out)).mono ?_; rintro e xb ⟨q2, rfl, _, o2, h2⟩
  have O2 := Lib.hid o2
  have H2a := Lib.hid h2
  clear o2 h2
  go_wp2_with fail
  refine (new_of cs ls len0 q1 q2 pc _ _ _ HCL.out HLL.out O1.out O2.out H1a.out H2a.out).mono ?_; rintro e xc ⟨s2, rfl, hs, hb⟩
  have S3 := Lib.hid hs
  have B3 := Lib.hid hb
  clear hs hb O1 O2 H1a H2a
  go_wp2_with fail
  refine (add_any s2 u3.heap.size cs ls pc _ a6 _ S3.out (by rw [HCL.out]; exact hpc) (by rw [HCL.out, HLL.out]) (by rw [HCL.out]; exact hn17)).mono ?_; rintro e u4 ⟨rfl, hs, hb⟩
  have S4 := Lib.hid hs
  have B4 := Lib.hid (B3.out.trans hb)
  clear hs hb
  have t1 := S2.out.below (Nat.le_refl _) B4.out
  have T1 := Lib.hid t1
  have T2 := Lib.hid S4.out
  have BW := Lib.hid (H2.out.trans ((B2.out.trans (B4.out.mono B2.out.size)).mono H2.out.size))
  clear t1
  have HW := Lib.hid (show wASbx a3 a4 a5 = a3 % 64 * 67108864 + a4 % 256 * 262144 + (a5 + 131071) % 262144 by unfold wASbx Fld.setSbx wrap64 Fld.setBx Fld.setA Fld.setOp; omega)
  have t1 := T1.out
  rw [HW.out] at t1
  have T1 := Lib.hid t1
  clear t1
  generalize a3 % 64 * 67108864 + a4 % 256 * 262144 + (a5 + 131071) % 262144 = x at *
  go_wp2_with fail
  refine (last_add s1 u2.heap.size cs (addL ls pc a6) pc x _ T1.out (by rw [HCL.out]; exact hpc) (by rw [HCL.out]; exact hn16)).mono ?_; rintro e ud ⟨rfl, q, rfl⟩
  go_wp2_with fail
  refine (pc_any s1 _ _ _ _ _ (T1.out.drewN _)).mono ?_; rintro e ud ⟨rfl, rfl⟩
  go_wp2_with fail
  refine (pc_any s2 _ _ _ _ _ (T2.out.drewN _)).mono ?_; rintro e ud ⟨rfl, rfl⟩
  have hlc := addL_lt_len (x := x) (show pc ≤ cs.length by rw [HCL.out]; exact hpc)
  have hll := addL_lt_len (x := a6) (show pc ≤ ls.length by rw [HLL.out]; exact hpc)
  have hlx : (addL ls pc a6).length = (addL cs pc x).length := by rw [addL_len (by rw [HLL.out]; exact hpc), addL_len (by rw [HCL.out]; exact hpc), HLL.out, HCL.out]
  rw [HCL.out] at hlc
  have HLC := Lib.hid hlc
  have HLX := Lib.hid hlx
  clear hlc hll hlx
  go_wp2_with fail
  refine (codes_any s1 _ _ _ _ _ (T1.out.drewN _)).mono ?_; rintro e ud ⟨p1, c1, rfl, r1, rfl⟩
  go_wp2_with fail
  refine (codes_any s2 _ _ _ _ _ (T2.out.drewN _)).mono ?_; rintro e ud ⟨p2, c2, rfl, r2, rfl⟩
  have R1 := Lib.hid r1
  have R2 := Lib.hid r2
  clear r1 r2
  go_wp2_with fail
  refine (eqU32_true p1 p2 _ c1 c2 _ _ rfl (by have := HLC.out; omega) (R1.out.re _) (R2.out.re _)).mono ?_; rintro e we ⟨rfl, q5, rfl⟩
  go_wp2_with fail
  refine (lines_any s1 _ _ _ _ _ (T1.out.drewN _)).mono ?_; rintro e ud ⟨p3, c3, rfl, r1, rfl⟩
  go_wp2_with fail
  refine (lines_any s2 _ _ _ _ _ (T2.out.drewN _)).mono ?_; rintro e ud ⟨p4, c4, rfl, r2, rfl⟩
  have R3 := Lib.hid r1
  have R4 := Lib.hid r2
  clear r1 r2
  go_wp2_with fail
  refine (eqInt_true p3 p4 _ c3 c4 _ _ rfl (by rw [HLX.out]; have := HLC.out; omega) (R3.out.re _) (R4.out.re _)).mono ?_; rintro e we ⟨rfl, q6, rfl⟩
  go_wp2
  go_ret
  exact ⟨rfl, below_drewN BW.out _⟩

end Go.Proofs.Ytnpljmcmpeaafaa.fnAddASbxIsAddOfBiasedPayload
