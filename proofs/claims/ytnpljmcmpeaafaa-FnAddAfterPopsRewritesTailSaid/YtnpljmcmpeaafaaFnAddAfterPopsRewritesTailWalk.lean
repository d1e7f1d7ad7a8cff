/- The walk of FnAddAfterPopsRewritesTail. -/
import Derived.Test.YtnpljmcmpeaafaaPopsKit106
namespace Go.Proofs.Ytnpljmcmpeaafaa.fnAddAfterPopsRewritesTail
open Go.RowKit
set_option linter.unusedVariables false

set_option maxHeartbeats 4000000 in
set_option maxRecDepth 100000 in
theorem walk (a0 : Option Addr) (len0 cap0 : Nat) (z0 : List Int) (a1 : Option Addr) (len1 cap1 : Nat) (z1 : List Int) (a2 : Int) (a3 : Option Addr) (len3 cap3 : Nat) (z3 : List Int) (a4 : Option Addr) (len4 cap4 : Nat) (z4 : List Int) (w : World) (w0 : IsRow .u32 w a0 len0 cap0 z0) (w1 : IsRow .i64 w a1 len1 cap1 z1) (w2 : (Lit.int .i64 a2).wf = true) (w3 : IsRow .u32 w a3 len3 cap3 z3) (w4 : IsRow .i64 w a4 len4 cap4 z4) :
    Calls Try.prog 10 #[.slice a0 len0 cap0, .slice a1 len1 cap1, .int .i64 a2, .slice a3 len3 cap3, .slice a4 len4 cap4] w fun e w' => e = .returned (.bool true) ∧ Below w.heap.size w w' := by
  have HBY := Lib.hid (bytes_any a0 len0 cap0 a1 len1 cap1 a2 a3 len3 cap3 a4 len4 cap4 w (InRow.len_le w0).2 (InRow.len_le w1).2 (InRow.len_le w3).2 (InRow.len_le w4).2)
  have X0 := Lib.hid (rdz_in w0)
  have X1 := Lib.hid (rdz_in w1)
  have X3 := Lib.hid (rdz_in w3)
  have X4 := Lib.hid (rdz_in w4)
  have Z0 := Lib.hid (InRow.len_le w0).1
  have Z1 := Lib.hid (InRow.len_le w1).1
  clear w0 w1 w2 w3 w4
  go_enter Try.func10, Try.ntmps10
  go_wp2_with fail
  refine HBY.out.mono ?_; rintro e u0 ⟨b, rfl, rfl, hbt⟩
  cases b with
  | false =>
    go_wp2
    go_ret
    exact ⟨rfl, Below.refl _ _⟩
  | true =>
  have hbl := hbt rfl
  clear hbt HBY
  by_cases hc0 : 65536 < len0
  · go_wp2
    go_ret
    exact ⟨rfl, Below.refl _ _⟩
  by_cases hc1 : 65536 < len1
  · go_wp2
    go_ret
    exact ⟨rfl, Below.refl _ _⟩
  by_cases hc3 : 65536 < len3
  · go_wp2
    go_ret
    exact ⟨rfl, Below.refl _ _⟩
  by_cases hc4 : 65536 < len4
  · go_wp2
    go_ret
    exact ⟨rfl, Below.refl _ _⟩
  by_cases hc5 : 1048576 < 8 * len0 + 8 * len1 + 8 * len3 + 8 * len4
  · go_wp2
    go_ret
    exact ⟨rfl, Below.refl _ _⟩
  by_cases hd : len0 = len1
  case neg =>
    have hd' : ¬ ((len0 : Int) = (len1 : Int)) := by omega
    go_wp2
    go_ret
    exact ⟨rfl, Below.refl _ _⟩
  subst hd
  by_cases hd : len3 = len4
  case neg =>
    have hd' : ¬ ((len3 : Int) = (len4 : Int)) := by omega
    go_wp2
    go_ret
    exact ⟨rfl, Below.refl _ _⟩
  subst hd
  by_cases hk0 : a2 < 0
  · go_wp2
    go_ret
    exact ⟨rfl, Below.refl _ _⟩
  by_cases hk1 : (len0 : Int) < a2
  · go_wp2
    go_ret
    exact ⟨rfl, Below.refl _ _⟩
  obtain ⟨K, rfl⟩ := Int.eq_ofNat_of_zero_le (show 0 ≤ a2 by omega)
  obtain ⟨m, hm⟩ : ∃ m, len0 = m + K := ⟨len0 - K, by omega⟩
  have hsub : (len0 : Int) - (K : Int) = (m : Int) := by omega
  have HSUB := Lib.hid hsub
  have HMK := Lib.hid hm
  clear hsub hm
  obtain ⟨B, hB⟩ : ∃ B, B = u0.heap.size := ⟨_, rfl⟩
  go_wp2_with fail
  refine (new_nil _).mono ?_; rintro e u1 ⟨rfl, hst, hb⟩
  rw [← hB] at hst hb
  rw [← hB]
  have HS := Lib.hid hst
  have HB := Lib.hid hb
  have HBB := Lib.hid hB
  clear hst hb hB
  go_wp2_with fail
  go_loopw [12] (fun i wr => ∃ j : Nat, j ≤ len0 ∧ i = .int .i64 j ∧ Store wr B B (z0.take j) (z1.take j) j ∧ Below B u0 wr) (fun i _ => len0 - (intOf i).toNat)
  case atStart => exact ⟨0, by omega, rfl, HS.out, HB.out⟩
  case round =>
    obtain ⟨j, hj, rfl, hst, hb⟩ := hrel
    have HS := Lib.hid hst
    have HB := Lib.hid hb
    clear hst hb
    by_cases hjl : j < len0
    · obtain ⟨g0, o0, e0, _, d0⟩ := (X0.out.below (Nat.le_of_eq HBB.out.symm) HB.out) j hjl
      obtain ⟨g1, o1, e1, _, d1⟩ := (X1.out.below (Nat.le_of_eq HBB.out.symm) HB.out) j hjl
      subst e0 e1
      have T0 := Lib.hid (take_add (l := z0) (k := j) (by have := Z0.out; omega))
      have T1 := Lib.hid (take_add (l := z1) (k := j) (by have := Z1.out; omega))
      have L0 := Lib.hid (show (z0.take j).length = j by have := Z0.out; simp; omega)
      have L1 := Lib.hid (show (z1.take j).length = j by have := Z1.out; simp; omega)
      generalize z0.getD j 0 = x at *
      generalize z1.getD j 0 = y at *
      have b1 : (0 : Int) ≤ (j : Int) := by omega
      have b2 : (j : Int) < (len0 : Int) := by omega
      go_wp2_with fail
      go_still_tail 9, (by kernel_rfl)
      change wpList _ _ _ _ _ wr.drew
      have HSD := Lib.hid (HS.out.drewN 1)
      have HBD := Lib.hid (below_drewN HB.out 1)
      change Hid (Store wr.drew B B (z0.take j) (z1.take j) j) at HSD
      change Hid (Below B u0 wr.drew) at HBD
      generalize wr.drew = wd at *
      go_wp2_with fail
      refine (add_any B B _ _ j x y _ HSD.out (by rw [L0.out]; omega) (by rw [L0.out, L1.out]) (by rw [L0.out]; omega)).mono ?_; rintro e u2 ⟨rfl, hst, hb⟩
      rw [T0.out, T1.out] at hst
      have HS2 := Lib.hid hst
      have HB2 := Lib.hid (HBD.out.trans hb)
      clear hst hb
      go_wp2
      go_roundw
      case rel => exact ⟨j + 1, by omega, by go_num, HS2.out, HB2.out⟩
      case measure => simp [intOf]; omega
    · have hjj : j = len0 := by omega
      subst hjj
      have L0 := Lib.hid (show (z0.take j).length = j by have := Z0.out; simp; omega)
      have L1 := Lib.hid (show (z1.take j).length = j by have := Z1.out; simp; omega)
      go_wp2_with fail
      refine (list_len B _ _ _ j _ HS.out (by rw [L0.out]; omega) (by rw [L0.out]; omega)).mono ?_; rintro e ud ⟨p1, c1, q1, rfl, r1, rfl⟩
      have R1 := Lib.hid (rdz_rd (z := z0) (n := j) r1 (by rw [List.length_take, L0.out]; omega) (fun i hi => by rw [getD_take _ _ _ _ hi, getD_take _ _ _ _ hi]))
      have R0 := Lib.hid (X0.out.below (Nat.le_of_eq HBB.out.symm) HB.out)
      clear r1
      go_wp2_with fail
      refine (eqU32_z p1 a0 j c1 cap0 z0 (wr.drewN q1) (by omega) (R1.out.drewN _) (R0.out.drewN _)).mono ?_; rintro e ud ⟨rfl, q2, rfl⟩
      go_wp2_with fail
      refine (pos_len B _ _ _ j _ (HS.out.drewN _) (by rw [L1.out]; omega) (by rw [L1.out]; omega)).mono ?_; rintro e ud ⟨p2, c2, q3, rfl, r2, rfl⟩
      have R2 := Lib.hid (rdz_rd (z := z1) (n := j) r2 (by rw [List.length_take, L1.out]; omega) (fun i hi => by rw [getD_take _ _ _ _ hi, getD_take _ _ _ _ hi]))
      have R3 := Lib.hid (X1.out.below (Nat.le_of_eq HBB.out.symm) HB.out)
      clear r2
      go_wp2_with fail
      refine (eqInt_z p2 a1 j c2 cap1 z1 (wr.drewN (q1 + q2 + q3)) (by omega) (R2.out.re _) (R3.out.drewN _)).mono ?_; rintro e ud ⟨rfl, q4, rfl⟩
      go_wp2_with fail
      go_loopw [13] (fun i wr => ∃ t : Nat, t ≤ K ∧ i = .int .i64 t ∧ Store wr B B (z0.take j) (z1.take j) (m + (K - t)) ∧ Below B u0 wr) (fun i _ => K - (intOf i).toNat)
      case atStart => exact ⟨0, by omega, rfl, by rw [Nat.sub_zero, ← HMK.out]; exact HS.out.drewN _, below_drewN HB.out _⟩
      case round =>
        obtain ⟨t, ht, rfl, hst, hb⟩ := hrel
        have HS := Lib.hid hst
        have HB := Lib.hid hb
        clear hst hb
        by_cases htl : t < K
        · have hs1 : Store wr B B (z0.take j) (z1.take j) (m + (K - (t + 1)) + 1) := by
            rw [show m + (K - (t + 1)) + 1 = m + (K - t) by omega]; exact HS.out
          have HS1 := Lib.hid hs1
          clear hs1
          have b2 : (t : Int) < (K : Int) := by omega
          go_wp2_with fail
          refine (pop_st B B _ _ (m + (K - (t + 1))) _ HS1.out (by have := HMK.out; omega)).mono ?_; rintro e u2 ⟨rfl, hst, hb⟩
          have HS2 := Lib.hid hst
          have HB2 := Lib.hid (HB.out.trans hb)
          clear hst hb
          go_wp2
          go_roundw
          case rel => exact ⟨t + 1, by omega, by go_num, HS2.out, HB2.out⟩
          case measure => simp [intOf]; omega
        · have htk : t = K := by omega
          subst htk
          have hs1 := HS.out
          rw [Nat.sub_self, Nat.add_zero] at hs1
          have HS1 := Lib.hid hs1
          clear hs1
          go_wp2_with fail
          go_loopw [14] (fun i wr => ∃ (n : Nat) (C L : List Int), n ≤ len3 ∧ i = .int .i64 n ∧ Store wr B B C L (m + n) ∧ Tl C m n z0 z3 ∧ Tl L m n z1 z4 ∧ L.length = C.length ∧ C.length ≤ j + n ∧ Below B u0 wr) (fun i _ => len3 - (intOf i).toNat)
          case atStart => exact ⟨0, _, _, by omega, rfl, HS1.out, ⟨by rw [L0.out]; have := HMK.out; omega, fun t ht => getD_take _ _ _ _ (by have := HMK.out; omega), fun t ht => absurd ht (by omega)⟩, ⟨by rw [L1.out]; have := HMK.out; omega, fun t ht => getD_take _ _ _ _ (by have := HMK.out; omega), fun t ht => absurd ht (by omega)⟩, by rw [L0.out, L1.out], by rw [L0.out]; omega, HB.out⟩
          case round =>
            obtain ⟨n, C, L, hn, rfl, hst, htc, htl, hll, hcl, hb⟩ := hrel
            have HS := Lib.hid hst
            have HB := Lib.hid hb
            have TC := Lib.hid htc
            have TL := Lib.hid htl
            have LL := Lib.hid hll
            have LC := Lib.hid hcl
            have hmn := htc.1
            clear hst hb htc htl hll hcl
            by_cases hnl : n < len3
            · obtain ⟨g0, o0, e0, _, d0⟩ := (X3.out.below (Nat.le_of_eq HBB.out.symm) HB.out) n hnl
              obtain ⟨g1, o1, e1, _, d1⟩ := (X4.out.below (Nat.le_of_eq HBB.out.symm) HB.out) n hnl
              subst e0 e1
              have TC2 := Lib.hid TC.out.step
              have TL2 := Lib.hid TL.out.step
              generalize z3.getD n 0 = x at *
              generalize z4.getD n 0 = y at *
              have b1 : (0 : Int) ≤ (n : Int) := by omega
              have b2 : (n : Int) < (len3 : Int) := by omega
              go_wp2_with fail
              go_still_tail 9, (by kernel_rfl)
              change wpList _ _ _ _ _ wr.drew
              have HSD := Lib.hid (HS.out.drewN 1)
              have HBD := Lib.hid (below_drewN HB.out 1)
              change Hid (Store wr.drew B B C L (m + n)) at HSD
              change Hid (Below B u0 wr.drew) at HBD
              generalize wr.drew = wd at *
              have hcl2 := LC.out
              go_wp2_with fail
              refine (add_any B B C L (m + n) x y _ HSD.out hmn LL.out (by omega)).mono ?_; rintro e u2 ⟨rfl, hst, hb⟩
              have HS2 := Lib.hid hst
              have HB2 := Lib.hid (HBD.out.trans hb)
              clear hst hb
              go_wp2
              go_roundw
              case rel =>
                refine ⟨n + 1, _, _, by omega, by go_num, HS2.out, TC2.out, TL2.out, ?_, ?_, HB2.out⟩
                · rw [addL_len TL.out.1, addL_len TC.out.1, LL.out]
                · rw [addL_len TC.out.1]; split <;> omega
              case measure => simp [intOf]; omega
            · have hnn : n = len3 := by omega
              subst hnn
              have hcl2 := LC.out
              have hll2 := LL.out
              obtain ⟨P, hP⟩ : ∃ P, P = m + n := ⟨_, rfl⟩
              have hPI : (m : Int) + (n : Int) = (P : Int) := by omega
              have HPI := Lib.hid hPI
              have HPE := Lib.hid hP
              have hsp := HS.out
              rw [← hP] at hsp hmn
              have HSP := Lib.hid hsp
              clear hPI hP hsp
              go_wp2_with fail
              rw [HSUB.out]
              refine (list_len B _ _ _ P _ HSP.out hmn (by omega)).mono ?_; rintro e ud ⟨p3, c3, q5, rfl, r1, rfl⟩
              have RC := Lib.hid (rdz_rd (z := C) (n := P) r1 (by rw [List.length_take]; omega) (fun i hi => getD_take _ _ _ _ hi))
              clear r1
              go_wp2_with fail
              refine (pos_len B _ _ _ P _ (HSP.out.drewN _) (by omega) (by omega)).mono ?_; rintro e ud ⟨p4, c4, q6, rfl, r2, rfl⟩
              have RL := Lib.hid (rdz_rd (z := L) (n := P) r2 (by rw [List.length_take]; omega) (fun i hi => getD_take _ _ _ _ hi))
              clear r2
              have hq1 : (P : Int) = (m : Int) + (n : Int) := HPI.out.symm
              have HQ1 := Lib.hid hq1
              obtain ⟨x, rfl⟩ : ∃ x : World, x = wr := ⟨_, rfl⟩
              have RX0 := Lib.hid (X0.out.below (Nat.le_of_eq HBB.out.symm) HB.out)
              have RX1 := Lib.hid (X1.out.below (Nat.le_of_eq HBB.out.symm) HB.out)
              have RX3 := Lib.hid (X3.out.below (Nat.le_of_eq HBB.out.symm) HB.out)
              have RX4 := Lib.hid (X4.out.below (Nat.le_of_eq HBB.out.symm) HB.out)
              have hmj : m ≤ j := by have := HMK.out; omega
              go_wp2_with fail
              go_loopw [18] (fun i wr => ∃ s q : Nat, s ≤ m ∧ i = .int .i64 s ∧ wr = x.drewN q) (fun i _ => m - (intOf i).toNat)
              case atStart => exact ⟨0, _, by omega, rfl, rfl⟩
              case round =>
                obtain ⟨s, q, hs, rfl, hwq⟩ := hrel
                have HWQ := Lib.hid hwq
                by_cases hsl : s < m
                · obtain ⟨g1, o1, e1, _, k1⟩ := RC.out s (by omega)
                  obtain ⟨g2, o2, e2, _, k2⟩ := RX0.out s (by omega)
                  obtain ⟨g3, o3, e3, _, k3⟩ := RL.out s (by omega)
                  obtain ⟨g4, o4, e4, _, k4⟩ := RX1.out s (by omega)
                  rw [TC.out.2.1 s hsl] at k1
                  rw [TL.out.2.1 s hsl] at k3
                  have d1 : wr.cell? ⟨g1, o1 + s, none⟩ = some (.int .u32 (z0.getD s 0)) := by rw [hwq]; exact k1
                  have d2 : wr.cell? ⟨g2, o2 + s, none⟩ = some (.int .u32 (z0.getD s 0)) := by rw [hwq]; exact k2
                  have d3 : wr.cell? ⟨g3, o3 + s, none⟩ = some (.int .i64 (z1.getD s 0)) := by rw [hwq]; exact k3
                  have d4 : wr.cell? ⟨g4, o4 + s, none⟩ = some (.int .i64 (z1.getD s 0)) := by rw [hwq]; exact k4
                  subst e1 e2 e3 e4
                  clear k1 k2 k3 k4 hwq
                  generalize z0.getD s 0 = y1 at *
                  generalize z1.getD s 0 = y2 at *
                  have b1 : (0 : Int) ≤ (s : Int) := by omega
                  have b2 : (s : Int) < (m : Int) := by omega
                  have b3 : (s : Int) < (P : Int) := by omega
                  have b4 : (s : Int) < (j : Int) := by omega
                  clear hq1
                  go_wp2
                  go_quiet (fail)
                  go_wp2
                  go_roundw
                  case rel => exact ⟨s + 1, q + nq, by omega, by go_num, by rw [HWQ.out, World.drewN_drewN]⟩
                  case measure => simp [intOf]; omega
                · have hsm : s = m := by omega
                  subst hsm
                  clear hwq
                  go_wp2_with fail
                  go_loopw [19] (fun i wr => ∃ r q : Nat, r ≤ n ∧ i = .int .i64 r ∧ wr = x.drewN q) (fun i _ => n - (intOf i).toNat)
                  case atStart => exact ⟨0, q, by omega, rfl, HWQ.out⟩
                  case round =>
                    obtain ⟨r, q, hr, rfl, hwq⟩ := hrel
                    have HWQ := Lib.hid hwq
                    by_cases hrl : r < n
                    · have hsr : s + r < P := by omega
                      obtain ⟨g1, o1, e1, _, k1⟩ := RC.out (s + r) hsr
                      obtain ⟨g2, o2, e2, _, k2⟩ := RX3.out r (by omega)
                      obtain ⟨g3, o3, e3, _, k3⟩ := RL.out (s + r) hsr
                      obtain ⟨g4, o4, e4, _, k4⟩ := RX4.out r (by omega)
                      rw [TC.out.2.2 r hrl] at k1
                      rw [TL.out.2.2 r hrl] at k3
                      have d1 : wr.cell? ⟨g1, o1 + (s + r), none⟩ = some (.int .u32 (z3.getD r 0)) := by rw [hwq]; exact k1
                      have d2 : wr.cell? ⟨g2, o2 + r, none⟩ = some (.int .u32 (z3.getD r 0)) := by rw [hwq]; exact k2
                      have d3 : wr.cell? ⟨g3, o3 + (s + r), none⟩ = some (.int .i64 (z4.getD r 0)) := by rw [hwq]; exact k3
                      have d4 : wr.cell? ⟨g4, o4 + r, none⟩ = some (.int .i64 (z4.getD r 0)) := by rw [hwq]; exact k4
                      subst e1 e2 e3 e4
                      clear k1 k2 k3 k4 hwq
                      generalize z3.getD r 0 = y1 at *
                      generalize z4.getD r 0 = y2 at *
                      have b1 : (0 : Int) ≤ (r : Int) := by omega
                      have b2 : (r : Int) < (n : Int) := by omega
                      have b3 : (s : Int) + (r : Int) < (P : Int) := by omega
                      have b4 : (0 : Int) ≤ (s : Int) + (r : Int) := by omega
                      have b5 : ((s : Int) + (r : Int)).toNat = s + r := by omega
                      clear hq1
                      go_wp2
                      go_quiet (fail)
                      go_wp2
                      go_roundw
                      case rel => exact ⟨r + 1, q + nq, by omega, by go_num, by rw [HWQ.out, World.drewN_drewN]⟩
                      case measure => simp [intOf]; omega
                    · have hrn : r = n := by omega
                      subst hrn
                      rw [hwq]
                      clear hwq
                      go_wp2_with fail
                      refine (lastPC_any B B C L P _ (HSP.out.drewN _) (by omega)).mono ?_; rintro e ud ⟨rfl, rfl⟩
                      rw [HQ1.out]
                      go_wp2
                      go_ret
                      exact ⟨by first | rfl | simp, by have hbb := below_drewN HB.out q; rw [HBB.out] at hbb; exact hbb⟩

end Go.Proofs.Ytnpljmcmpeaafaa.fnAddAfterPopsRewritesTail
