/- The walk of FnAddOverwritesOrAppendsAtPC. -/
import Derived.Test.YtnpljmcmpeaafaaCodeFnC106
namespace Go.Proofs.Ytnpljmcmpeaafaa.fnAddOverwritesOrAppendsAtPC
open Go.RowKit
set_option linter.unusedVariables false

set_option maxHeartbeats 400000 in
theorem bytes_no (a0 : Option Addr) (len0 cap0 : Nat) (a1 : Option Addr) (len1 cap1 : Nat) (a2 : Int) (a3 : Int) (a4 : Int) (w : World) (h : 1048576 < len0 + len1) (hm : len0 ≤ maxLen) (hm1 : len1 ≤ maxLen) :
    Calls Try.prog 11 #[.slice a0 len0 cap0, .slice a1 len1 cap1, .int .i64 a2, .int .u32 a3, .int .i64 a4] w fun e w' => e = .returned (.bool false) ∧ w = w' := by
  unfold maxLen at hm hm1
  by_cases h0 : 1048576 < len0
  · go_enter Try.func11, Try.ntmps11
    go_wp2
    go_ret
    exact ⟨rfl, rfl⟩
  by_cases h1 : 1048576 < len1
  · go_enter Try.func11, Try.ntmps11
    go_wp2
    go_ret
    exact ⟨rfl, rfl⟩
  go_enter Try.func11, Try.ntmps11
  go_wp2
  go_ret
  exact ⟨rfl, rfl⟩
set_option maxHeartbeats 400000 in
theorem bytes_yes (a0 : Option Addr) (len0 cap0 : Nat) (a1 : Option Addr) (len1 cap1 : Nat) (a2 : Int) (a3 : Int) (a4 : Int) (w : World) (h : len0 + len1 ≤ 1048576) :
    Calls Try.prog 11 #[.slice a0 len0 cap0, .slice a1 len1 cap1, .int .i64 a2, .int .u32 a3, .int .i64 a4] w fun e w' => e = .returned (.bool true) ∧ w = w' := by
  go_enter Try.func11, Try.ntmps11
  go_wp2
  go_ret
  exact ⟨rfl, rfl⟩

set_option maxHeartbeats 4000000 in
set_option maxRecDepth 100000 in
theorem walk (a0 : Option Addr) (len0 cap0 : Nat) (z0 : List Int) (a1 : Option Addr) (len1 cap1 : Nat) (z1 : List Int) (a2 : Int) (a3 : Int) (a4 : Int) (w : World) (w0 : IsRow .u32 w a0 len0 cap0 z0) (w1 : IsRow .i64 w a1 len1 cap1 z1) (w2 : (Lit.int .i64 a2).wf = true) (w3 : (Lit.int .u32 a3).wf = true) (w4 : (Lit.int .i64 a4).wf = true) :
    Calls Try.prog 3 #[.slice a0 len0 cap0, .slice a1 len1 cap1, .int .i64 a2, .int .u32 a3, .int .i64 a4] w fun e w' => e = .returned (.bool true) ∧ Below w.heap.size w w' := by
  have hl0 := (InRow.len_le w0).2
  have hl1 := (InRow.len_le w1).2
  have hz0 := (InRow.len_le w0).1
  have hz1 := (InRow.len_le w1).1
  by_cases hb : 1048576 < len0 + len1
  · clear w0 w1
    go_enter Try.func3, Try.ntmps3
    go_wp2_with fail
    refine (bytes_no a0 len0 cap0 a1 len1 cap1 a2 a3 a4 _ hb hl0 hl1).mono ?_; rintro e u1 ⟨rfl, rfl⟩
    go_wp2
    go_ret
    exact ⟨rfl, Below.refl _ _⟩
  have hb' : len0 + len1 ≤ 1048576 := by omega
  by_cases hc0 : 65536 < len0
  · clear w0 w1 hl0 hl1 hb hz0 hz1
    go_enter Try.func3, Try.ntmps3
    go_wp2_with fail
    refine (bytes_yes a0 len0 cap0 a1 len1 cap1 a2 a3 a4 _ hb').mono ?_; rintro e u1 ⟨rfl, rfl⟩
    go_wp2
    go_ret
    exact ⟨rfl, Below.refl _ _⟩
  by_cases hc1 : 65536 < len1
  · clear w0 w1 hl0 hl1 hb hz0 hz1
    go_enter Try.func3, Try.ntmps3
    go_wp2_with fail
    refine (bytes_yes a0 len0 cap0 a1 len1 cap1 a2 a3 a4 _ hb').mono ?_; rintro e u1 ⟨rfl, rfl⟩
    go_wp2
    go_ret
    exact ⟨rfl, Below.refl _ _⟩
  have hc2 : ¬ (1048576 < 8 * len0 + 8 * len1) := by omega
  by_cases hc3 : len0 ≠ len1
  · have hq : ((len0 : Int) == (len1 : Int)) = false := by simp; omega
    have hq2 : ¬ ((len0 : Int) = (len1 : Int)) := by omega
    clear w0 w1 hl0 hl1 hb hz0 hz1
    go_enter Try.func3, Try.ntmps3
    go_wp2_with fail
    refine (bytes_yes a0 len0 cap0 a1 len1 cap1 a2 a3 a4 _ hb').mono ?_; rintro e u1 ⟨rfl, rfl⟩
    go_wp2
    go_ret
    exact ⟨rfl, Below.refl _ _⟩
  have hc6 : len0 = len1 := by omega
  subst hc6
  by_cases hc4 : a2 < 0
  · clear w0 w1 hl0 hl1 hb hz0 hz1
    go_enter Try.func3, Try.ntmps3
    go_wp2_with fail
    refine (bytes_yes a0 len0 cap0 a1 len0 cap1 a2 a3 a4 _ hb').mono ?_; rintro e u1 ⟨rfl, rfl⟩
    go_wp2
    go_ret
    exact ⟨rfl, Below.refl _ _⟩
  by_cases hc5 : (len0 : Int) < a2
  · clear w0 w1 hl0 hl1 hb hz0 hz1
    go_enter Try.func3, Try.ntmps3
    go_wp2_with fail
    refine (bytes_yes a0 len0 cap0 a1 len0 cap1 a2 a3 a4 _ hb').mono ?_; rintro e u1 ⟨rfl, rfl⟩
    go_wp2
    go_ret
    exact ⟨rfl, Below.refl _ _⟩
  obtain ⟨pc, rfl⟩ := Int.eq_ofNat_of_zero_le (show 0 ≤ a2 by omega)
  have hpc : pc ≤ len0 := by omega
  obtain ⟨cs, hcs⟩ : ∃ l, l = z0.take len0 := ⟨_, rfl⟩
  obtain ⟨ls, hls⟩ : ∃ l, l = z1.take len0 := ⟨_, rfl⟩
  have hcl : cs.length = len0 := by rw [hcs]; simp; omega
  have hll : ls.length = len0 := by rw [hls]; simp; omega
  have hn16 : len0 ≤ 65536 := by omega
  have hn17 : len0 ≤ 131072 := by omega
  have cpU := copyU a0 len0 cap0 z0 cs w hcs hn17 w0
  have cpI := fun (u : World) (hu : Below w.heap.size w u) => copyI a1 len0 cap1 z1 ls u hls hn17 (InRow.keep w1 hu)
  have CU := Lib.hid cpU
  have CI := Lib.hid cpI
  have HCL := Lib.hid hcl
  have HLL := Lib.hid hll
  clear hcs hls hcl hll cpU cpI w0 w1 hl0 hl1 hz0 hz1 hc0 hc1 hc4 hc5 w2 hb
  have b6 : ¬ ((pc : Int) < 0) := by omega
  have b7 : ¬ ((len0 : Int) < (pc : Int)) := by omega
  go_enter Try.func3, Try.ntmps3
  go_wp2_with fail
  refine (bytes_yes a0 len0 cap0 a1 len0 cap1 pc a3 a4 _ hb').mono ?_; rintro e u0 ⟨rfl, rfl⟩
  go_wp2_with fail
  refine CU.out.mono ?_; rintro e u1 ⟨p, rfl, ip, _, h1⟩
  have IP1 := Lib.hid ip
  have H1 := Lib.hid h1
  clear ip h1
  go_wp2_with fail
  refine (CI.out _ H1.out).mono ?_; rintro e u2 ⟨r, rfl, ir, _, h2⟩
  have IP := Lib.hid (InRow.keep IP1.out h2)
  have IR := Lib.hid ir
  have H2 := Lib.hid (H1.out.trans (h2.mono H1.out.size))
  clear ir h2
  go_wp2_with fail
  refine (recopyU p len0 cs _ HCL.out hn17 IP.out).mono ?_; rintro e va ⟨q1, rfl, _, o1, h1⟩
  have O1 := Lib.hid o1
  have H1a := Lib.hid h1
  clear o1 h1
  go_wp2_with fail
  refine (recopyI r len0 ls _ HLL.out hn17 (InRow.keep IR.out H1a.out)).mono ?_; rintro e vb ⟨q2, rfl, _, o2, h2⟩
  have O2 := Lib.hid o2
  have H2a := Lib.hid h2
  clear o2 h2
  go_wp2_with fail
  refine (new_of cs ls len0 q1 q2 pc _ _ _ HCL.out HLL.out O1.out O2.out H1a.out H2a.out).mono ?_; rintro e vc ⟨s1, rfl, hs, hb⟩
  have S1 := Lib.hid hs
  have B1 := Lib.hid hb
  clear hs hb O1 O2 H1a H2a
  go_wp2_with fail
  refine (add_any s1 u2.heap.size cs ls pc a3 a4 _ S1.out (by rw [HCL.out]; exact hpc) (by rw [HCL.out, HLL.out]) (by rw [HCL.out]; exact hn17)).mono ?_; rintro e u3 ⟨rfl, hs, hb⟩
  have S2 := Lib.hid hs
  have B2 := Lib.hid (B1.out.trans hb)
  clear hs hb
  by_cases hlt : pc < len0
  · have hq : ((pc : Int) == (len0 : Int)) = false := by simp; omega
    have hq2 : ¬ ((pc : Int) = (len0 : Int)) := by omega
    have hm1 : (addL cs pc a3).length = len0 := by rw [addL_len (by rw [HCL.out]; omega), HCL.out]; split <;> omega
    have hm2 : (addL ls pc a4).length = len0 := by rw [addL_len (by rw [HLL.out]; omega), HLL.out]; split <;> omega
    have HM1 := Lib.hid hm1
    have HM2 := Lib.hid hm2
    clear hm1 hm2
    go_wp2_with fail
    refine (codes_len s1 _ _ _ _ len0 _ HM1.out S2.out).mono ?_; rintro e ud ⟨p1, c1, rfl, r1, rfl⟩
    go_wp2_with fail
    refine (lines_len s1 _ _ _ _ len0 _ HM2.out S2.out).mono ?_; rintro e ud ⟨p2, c2, rfl, r2, rfl⟩
    have R1 := Lib.hid r1
    have R2 := Lib.hid r2
    clear r1 r2
    go_wp2_with fail
    refine (pc_any s1 _ _ _ _ _ S2.out).mono ?_; rintro e ud ⟨rfl, rfl⟩
    go_wp2_with fail
    go_loopw [15] (fun i wr => ∃ k q : Nat, k ≤ len0 ∧ i = .int .i64 k ∧ wr = u3.drewN q) (fun i _ => len0 - (intOf i).toNat)
    case atStart => exact ⟨0, 0, by omega, rfl, rfl⟩
    case round =>
      obtain ⟨k, q, hk, rfl, hwq⟩ := hrel
      have HWQ := Lib.hid hwq
      by_cases hkl : k < len0
      · by_cases hi : pc = k
        · subst hi
          obtain ⟨g1, e1, _, d1⟩ := (R1.out.drewN q) pc (by rw [HM1.out]; omega)
          obtain ⟨g2, e2, _, d2⟩ := (R2.out.drewN q) pc (by rw [HM2.out]; omega)
          rw [addL_at (by rw [HCL.out]; omega)] at d1
          rw [addL_at (by rw [HLL.out]; omega)] at d2
          rw [← hwq] at d1 d2
          subst e1
          subst e2
          clear hwq
          go_wp2
          go_roundw
          case rel => exact ⟨pc + 1, q, by omega, by go_num, HWQ.out⟩
          case measure => first | (simp [intOf]; done) | (simp [intOf]; omega)
        · obtain ⟨g1, e1, _, d1⟩ := (R1.out.drewN q) k (by rw [HM1.out]; omega)
          obtain ⟨g2, e2, _, d2⟩ := (R2.out.drewN q) k (by rw [HM2.out]; omega)
          rw [addL_other (by rw [HCL.out]; omega) (by omega)] at d1
          rw [addL_other (by rw [HLL.out]; omega) (by omega)] at d2
          obtain ⟨b3, o3, e3, _, d3⟩ := in_cell (InRow.keep IP.out B2.out) (i := k) (by omega)
          obtain ⟨b4, o4, e4, _, d4⟩ := in_cell (InRow.keep IR.out B2.out) (i := k) (by omega)
          change (u3.drewN q).cell? _ = _ at d3 d4
          rw [← hwq] at d1 d2 d3 d4
          subst e1
          subst e2
          subst e3
          subst e4
          generalize cs.getD k 0 = x1 at *
          generalize ls.getD k 0 = x2 at *
          have hi1 : ((k : Int) == ((pc : Nat) : Int)) = false := by simp; omega
          have hi2 : ¬ ((k : Int) = ((pc : Nat) : Int)) := by omega
          have hk1 : (0 : Int) ≤ (k : Int) := by omega
          have hk2 : (k : Int) < (len0 : Int) := by omega
          have hk3 : (k : Int) < ((len0 : Nat) : Int) := by omega
          clear hwq
          go_wp2
          go_quiet (fail)
          go_wp2
          go_roundw
          case rel => exact ⟨k + 1, q + nq, by omega, by go_num, by rw [HWQ.out, World.drewN_drewN]⟩
          case measure => first | (simp [intOf]; done) | (simp [intOf]; omega)
      · have hkm : ¬ (k : Int) < ((len0 : Nat) : Int) := by omega
        rw [hwq]
        clear hwq
        go_wp2_with fail
        refine (list_len s1 _ _ _ _ _ (S2.out.drewN _) (by rw [HM1.out]; omega) (by rw [HM1.out]; omega)).mono ?_; rintro e ud ⟨p5, c5, q5, rfl, _, rfl⟩
        go_wp2_with fail
        refine (pos_len s1 _ _ _ _ _ (S2.out.drewN _) (by rw [HM2.out]; omega) (by rw [HM2.out]; omega)).mono ?_; rintro e ud ⟨p6, c6, q6, rfl, _, rfl⟩
        go_wp2_with fail
        refine (last_add s1 _ cs _ pc a3 _ (S2.out.drewN _) (by rw [HCL.out]; omega) (by rw [HCL.out]; exact hn16)).mono ?_; rintro e ud ⟨rfl, q7, rfl⟩
        go_wp2_with fail
        refine (lastPC_any s1 _ _ _ _ _ (S2.out.drewN _) (by omega)).mono ?_; rintro e ud ⟨rfl, rfl⟩
        go_wp2
        go_ret
        exact ⟨rfl, below_drewN (H2.out.trans (B2.out.mono H2.out.size)) _⟩
  · have he : pc = len0 := by omega
    subst he
    have hm1 : (addL cs pc a3).length = (pc + 1) := by rw [addL_len (by rw [HCL.out]; omega), HCL.out]; split <;> omega
    have hm2 : (addL ls pc a4).length = (pc + 1) := by rw [addL_len (by rw [HLL.out]; omega), HLL.out]; split <;> omega
    have HM1 := Lib.hid hm1
    have HM2 := Lib.hid hm2
    clear hm1 hm2
    go_wp2_with fail
    refine (codes_len s1 _ _ _ _ (pc + 1) _ HM1.out S2.out).mono ?_; rintro e ud ⟨p1, c1, rfl, r1, rfl⟩
    go_wp2_with fail
    refine (lines_len s1 _ _ _ _ (pc + 1) _ HM2.out S2.out).mono ?_; rintro e ud ⟨p2, c2, rfl, r2, rfl⟩
    have R1 := Lib.hid r1
    have R2 := Lib.hid r2
    clear r1 r2
    go_wp2_with fail
    refine (pc_any s1 _ _ _ _ _ S2.out).mono ?_; rintro e ud ⟨rfl, rfl⟩
    go_wp2_with fail
    go_loopw [15] (fun i wr => ∃ k q : Nat, k ≤ (pc + 1) ∧ i = .int .i64 k ∧ wr = u3.drewN q) (fun i _ => (pc + 1) - (intOf i).toNat)
    case atStart => exact ⟨0, 0, by omega, rfl, rfl⟩
    case round =>
      obtain ⟨k, q, hk, rfl, hwq⟩ := hrel
      have HWQ := Lib.hid hwq
      by_cases hkl : k < (pc + 1)
      · by_cases hi : pc = k
        · subst hi
          obtain ⟨g1, e1, _, d1⟩ := (R1.out.drewN q) pc (by rw [HM1.out]; omega)
          obtain ⟨g2, e2, _, d2⟩ := (R2.out.drewN q) pc (by rw [HM2.out]; omega)
          rw [addL_at (by rw [HCL.out]; omega)] at d1
          rw [addL_at (by rw [HLL.out]; omega)] at d2
          rw [← hwq] at d1 d2
          subst e1
          subst e2
          clear hwq
          go_wp2
          go_roundw
          case rel => exact ⟨pc + 1, q, by omega, by go_num, HWQ.out⟩
          case measure => first | (simp [intOf]; done) | (simp [intOf]; omega)
        · obtain ⟨g1, e1, _, d1⟩ := (R1.out.drewN q) k (by rw [HM1.out]; omega)
          obtain ⟨g2, e2, _, d2⟩ := (R2.out.drewN q) k (by rw [HM2.out]; omega)
          rw [addL_other (by rw [HCL.out]; omega) (by omega)] at d1
          rw [addL_other (by rw [HLL.out]; omega) (by omega)] at d2
          obtain ⟨b3, o3, e3, _, d3⟩ := in_cell (InRow.keep IP.out B2.out) (i := k) (by omega)
          obtain ⟨b4, o4, e4, _, d4⟩ := in_cell (InRow.keep IR.out B2.out) (i := k) (by omega)
          change (u3.drewN q).cell? _ = _ at d3 d4
          rw [← hwq] at d1 d2 d3 d4
          subst e1
          subst e2
          subst e3
          subst e4
          generalize cs.getD k 0 = x1 at *
          generalize ls.getD k 0 = x2 at *
          have hi1 : ((k : Int) == ((pc : Nat) : Int)) = false := by simp; omega
          have hi2 : ¬ ((k : Int) = ((pc : Nat) : Int)) := by omega
          have hk1 : (0 : Int) ≤ (k : Int) := by omega
          have hk2 : (k : Int) < (pc : Int) := by omega
          have hk3 : (k : Int) < (((pc + 1) : Nat) : Int) := by omega
          clear hwq
          go_wp2
          go_quiet (fail)
          go_wp2
          go_roundw
          case rel => exact ⟨k + 1, q + nq, by omega, by go_num, by rw [HWQ.out, World.drewN_drewN]⟩
          case measure => first | (simp [intOf]; done) | (simp [intOf]; omega)
      · have hkm : ¬ (k : Int) < (((pc + 1) : Nat) : Int) := by omega
        rw [hwq]
        clear hwq
        go_wp2_with fail
        refine (list_len s1 _ _ _ _ _ (S2.out.drewN _) (by rw [HM1.out]; omega) (by rw [HM1.out]; omega)).mono ?_; rintro e ud ⟨p5, c5, q5, rfl, _, rfl⟩
        go_wp2_with fail
        refine (pos_len s1 _ _ _ _ _ (S2.out.drewN _) (by rw [HM2.out]; omega) (by rw [HM2.out]; omega)).mono ?_; rintro e ud ⟨p6, c6, q6, rfl, _, rfl⟩
        go_wp2_with fail
        refine (last_add s1 _ cs _ pc a3 _ (S2.out.drewN _) (by rw [HCL.out]; omega) (by rw [HCL.out]; exact hn16)).mono ?_; rintro e ud ⟨rfl, q7, rfl⟩
        go_wp2_with fail
        refine (lastPC_any s1 _ _ _ _ _ (S2.out.drewN _) (by omega)).mono ?_; rintro e ud ⟨rfl, rfl⟩
        go_wp2
        go_ret
        exact ⟨rfl, below_drewN (H2.out.trans (B2.out.mono H2.out.size)) _⟩

end Go.Proofs.Ytnpljmcmpeaafaa.fnAddOverwritesOrAppendsAtPC
