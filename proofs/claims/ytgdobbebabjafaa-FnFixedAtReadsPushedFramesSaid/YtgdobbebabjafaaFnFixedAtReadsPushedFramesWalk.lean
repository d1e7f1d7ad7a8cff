/- The walk of FnFixedAtReadsPushedFrames. -/
import Derived.Test.YtgdobbebabjafaaFill120
import Derived.Deep.RegionHeld3
namespace Go.Proofs.Ytgdobbebabjafaa.fnFixedAtReadsPushedFrames
open Go.RowKit
set_option linter.unusedVariables false

set_option maxHeartbeats 400000 in
theorem bytes_no (a0 : Option Addr) (len0 cap0 : Nat) (a1 : Int) (w : World) (h : 1048576 < len0) (hm : len0 ≤ maxLen) :
    Calls Try.prog 20 #[.slice a0 len0 cap0, .int .i64 a1] w fun e w' => e = .returned (.bool false) ∧ w = w' := by
  unfold maxLen at hm
  go_enter Try.func20, Try.ntmps20
  go_wp2
  go_ret
  exact ⟨rfl, rfl⟩
set_option maxHeartbeats 400000 in
theorem bytes_yes (a0 : Option Addr) (len0 cap0 : Nat) (a1 : Int) (w : World) (h : len0 ≤ 1048576) :
    Calls Try.prog 20 #[.slice a0 len0 cap0, .int .i64 a1] w fun e w' => e = .returned (.bool true) ∧ w = w' := by
  go_enter Try.func20, Try.ntmps20
  go_wp2
  go_ret
  exact ⟨rfl, rfl⟩

set_option maxHeartbeats 2000000 in
set_option maxRecDepth 100000 in
theorem walk (a0 : Option Addr) (len0 cap0 : Nat) (z0 : List Int) (a1 : Int) (w : World) (w0 : IsRow .i64 w a0 len0 cap0 z0) (w1 : (Lit.int .i64 a1).wf = true) :
    Calls Try.prog 5 #[.slice a0 len0 cap0, .int .i64 a1] w fun e w' => e = .returned (.bool true) ∧ Below w.heap.size w w' := by
  have hl1 := (InRow.len_le w0).1
  have hl2 := (InRow.len_le w0).2
  by_cases hb : 1048576 < len0
  · clear w0
    go_enter Try.func5, Try.ntmps5
    go_wp2_with fail
    refine (bytes_no a0 len0 cap0 a1 _ hb hl2).mono ?_; rintro e w1 ⟨rfl, rfl⟩
    go_wp2
    go_ret
    exact ⟨rfl, Below.refl _ _⟩
  have hb' : len0 ≤ 1048576 := by omega
  by_cases hc : 65536 < len0
  · clear w0 hl1 hl2 hb
    go_enter Try.func5, Try.ntmps5
    go_wp2_with fail
    refine (bytes_yes a0 len0 cap0 a1 _ hb').mono ?_; rintro e w1 ⟨rfl, rfl⟩
    go_wp2
    go_ret
    exact ⟨rfl, Below.refl _ _⟩
  by_cases hs1 : a1 < 0
  · clear w0 hl1 hl2 hb
    go_enter Try.func5, Try.ntmps5
    go_wp2_with fail
    refine (bytes_yes a0 len0 cap0 a1 _ hb').mono ?_; rintro e w1 ⟨rfl, rfl⟩
    go_wp2
    go_ret
    exact ⟨rfl, Below.refl _ _⟩
  by_cases hs2 : 65536 < a1
  · clear w0 hl1 hl2 hb
    go_enter Try.func5, Try.ntmps5
    go_wp2_with fail
    refine (bytes_yes a0 len0 cap0 a1 _ hb').mono ?_; rintro e w1 ⟨rfl, rfl⟩
    go_wp2
    go_ret
    exact ⟨rfl, Below.refl _ _⟩
  obtain ⟨sl, rfl⟩ := Int.eq_ofNat_of_zero_le (show 0 ≤ a1 by omega)
  have hsl : sl ≤ 65536 := by omega
  clear hs1 hs2 w1
  obtain ⟨l, hl⟩ : ∃ l, l = z0.take len0 := ⟨_, rfl⟩
  have hlen : l.length = len0 := by rw [hl]; simp; omega
  have hclone := cloneInts_any a0 len0 cap0 z0
  rw [← hl] at hclone
  have HCL := Lib.hid hclone
  have W0 := Lib.hid w0
  have HLEN := Lib.hid hlen
  clear hclone hl hl1 hl2 hb w0 hlen
  have hc' : len0 ≤ 65536 := by omega
  clear hc
  go_enter Try.func5, Try.ntmps5
  go_wp2_with fail
  refine (bytes_yes a0 len0 cap0 sl _ hb').mono ?_; rintro e w1 ⟨rfl, rfl⟩
  go_wp2_with fail
  refine (HCL.out _ W0.out (by omega)).mono ?_; rintro e w1 ⟨v, rfl, hown, hb1⟩
  obtain ⟨p, hv⟩ := own_form hown
  rw [HLEN.out] at hv
  subst hv
  have HOWN := Lib.hid hown
  have HB1 := Lib.hid hb1
  have hsz := hb1.size
  clear hown hb1
  go_wp2_with fail
  refine (fill_sum _ _ l len0 sl HLEN.out (by omega) _ HOWN.out).mono ?_; rintro e w2 ⟨A, B, arr, rfl, hA, hB, hst, hfl, hb2⟩
  rw [HLEN.out] at hst hfl
  have HST := Lib.hid hst
  have HFL := Lib.hid hfl
  have HBL2 := Lib.hid hb2
  have hval : ∀ k, k < len0 → ∃ g, p = some ⟨g, 0, none⟩ ∧ g < w1.heap.size ∧ w1.cell? ⟨g, k, none⟩ = some (.int .i64 (l.getD k 0)) := fun k hk => by
    obtain ⟨g, h1, _, h2, h3⟩ := own_cell HOWN.out (0 : Int) (by rw [HLEN.out]; exact hk)
    exact ⟨g, h1, h2, h3⟩
  have HVAL := Lib.hid hval
  clear hval
  have HB2 := Lib.hid (HB1.out.trans (hb2.mono hsz))
  have hA' : w.heap.size ≤ A := by omega
  have hB' : w.heap.size ≤ B := by omega
  have hsz2 := hb2.size
  clear hst hfl hb2
  go_wp2_with fail
  refine (sp_any A B _ _ arr _ HST.out).mono ?_; rintro e w3 ⟨rfl, rfl⟩
  go_wp2_with fail
  go_loopw [7, 8] (fun i _ wr => ∃ k : Nat, k ≤ len0 ∧ i = .int .i64 k ∧ Stk wr A B (len0 + sl) (len0 : Int) arr ∧ Below w1.heap.size w1 wr) (fun i _ _ => len0 - (intOf i).toNat)
  case atStart => exact ⟨0, by omega, rfl, HST.out, HBL2.out⟩
  case round =>
    obtain ⟨m, hm, rfl, hst, hbr⟩ := hrel
    have HS2 := Lib.hid hst
    have HBR2 := Lib.hid hbr
    have hszr := hbr.size
    clear hst hbr
    by_cases hkl : m < len0
    · obtain ⟨g, hp, hg, hcv⟩ := HVAL.out m hkl
      subst hp
      obtain ⟨w3, rfl⟩ : ∃ w3 : World, w3 = wr := ⟨_, rfl⟩
      have hpn := ptr_same_neq
      go_wp2_with fail
      refine (at_any A B _ _ m arr _ HS2.out (by omega)).mono ?_; rintro e w5 ⟨rfl, rfl⟩
      go_wp2_with fail
      refine (at_any A B _ _ m arr _ HS2.out (by omega)).mono ?_; rintro e w5 ⟨rfl, rfl⟩
      have c1 : w3.cell? ⟨g, m, none⟩ = some (.int .i64 (l.getD m 0)) := (HBR2.out.cell (p := ⟨g, m, none⟩) hg).trans hcv
      obtain ⟨f0, f1, f2, f3, f4, f5, f6, f7, f8, f9⟩ := cells10 HS2.out (HFL.out.1 m (by omega))
      generalize l.getD m 0 = u at *
      have hfn := frame_neq
      have lA : A < w3.heap.size := by have := lt_of_block HS2.out.hA; exact this
      have lg : g < w3.heap.size := Nat.lt_of_lt_of_le hg HBR2.out.size
      have S0 : (fun w' : World => A < w'.heap.size ∧ g < w'.heap.size ∧ w'.cell? ⟨A, m * 10, none⟩ = some (.int .i64 m) ∧ w'.cell? ⟨A, m * 10 + 1, none⟩ = some (.pointer none) ∧ w'.cell? ⟨A, m * 10 + 2, none⟩ = some (.pointer none) ∧ w'.cell? ⟨A, m * 10 + 3, none⟩ = some (.int .i64 m) ∧ w'.cell? ⟨A, m * 10 + 4, none⟩ = some (.int .i64 0) ∧ w'.cell? ⟨A, m * 10 + 5, none⟩ = some (.int .i64 0) ∧ w'.cell? ⟨A, m * 10 + 6, none⟩ = some (.int .i64 0) ∧ w'.cell? ⟨A, m * 10 + 7, none⟩ = some (.int .i64 0) ∧ w'.cell? ⟨A, m * 10 + 8, none⟩ = some (.int .i64 u) ∧ w'.cell? ⟨A, m * 10 + 9, none⟩ = some (.int .i64 0) ∧ w'.cell? ⟨g, m, none⟩ = some (.int .i64 u)) w3.drew := ⟨lA, lg, f0, f1, f2, f3, f4, f5, f6, f7, f8, f9, c1⟩
      have S1 : (fun w' : World => A < w'.heap.size ∧ g < w'.heap.size ∧ w'.cell? ⟨A, m * 10, none⟩ = some (.int .i64 m) ∧ w'.cell? ⟨A, m * 10 + 1, none⟩ = some (.pointer none) ∧ w'.cell? ⟨A, m * 10 + 2, none⟩ = some (.pointer none) ∧ w'.cell? ⟨A, m * 10 + 3, none⟩ = some (.int .i64 m) ∧ w'.cell? ⟨A, m * 10 + 4, none⟩ = some (.int .i64 0) ∧ w'.cell? ⟨A, m * 10 + 5, none⟩ = some (.int .i64 0) ∧ w'.cell? ⟨A, m * 10 + 6, none⟩ = some (.int .i64 0) ∧ w'.cell? ⟨A, m * 10 + 7, none⟩ = some (.int .i64 0) ∧ w'.cell? ⟨A, m * 10 + 8, none⟩ = some (.int .i64 u) ∧ w'.cell? ⟨A, m * 10 + 9, none⟩ = some (.int .i64 0) ∧ w'.cell? ⟨g, m, none⟩ = some (.int .i64 u)) (wantW m u w3.drew) := by
        have hA := cell_want (m : Int) u w3.drew
        refine ⟨Nat.lt_of_lt_of_le lA (size_want m u w3.drew), Nat.lt_of_lt_of_le lg (size_want m u w3.drew), ?_⟩
        exact ⟨(hA _ lA).trans f0, (hA _ lA).trans f1, (hA _ lA).trans f2, (hA _ lA).trans f3, (hA _ lA).trans f4, (hA _ lA).trans f5, (hA _ lA).trans f6, (hA _ lA).trans f7, (hA _ lA).trans f8, (hA _ lA).trans f9, (hA _ lg).trans c1⟩
      have HS0 := Lib.hid S0
      have HS1' := Lib.hid S1
      clear S0 S1
      have hm1 : (0 : Int) ≤ (m : Int) := by omega
      have hm2 : (m : Int) < (len0 : Int) := by omega
      have hn1 := nil_fn
      have hn2 := nil_fr
      go_wp2
      go_region_held3 (fun w' => A < w'.heap.size ∧ g < w'.heap.size ∧ w'.cell? ⟨A, m * 10, none⟩ = some (.int .i64 m) ∧ w'.cell? ⟨A, m * 10 + 1, none⟩ = some (.pointer none) ∧ w'.cell? ⟨A, m * 10 + 2, none⟩ = some (.pointer none) ∧ w'.cell? ⟨A, m * 10 + 3, none⟩ = some (.int .i64 m) ∧ w'.cell? ⟨A, m * 10 + 4, none⟩ = some (.int .i64 0) ∧ w'.cell? ⟨A, m * 10 + 5, none⟩ = some (.int .i64 0) ∧ w'.cell? ⟨A, m * 10 + 6, none⟩ = some (.int .i64 0) ∧ w'.cell? ⟨A, m * 10 + 7, none⟩ = some (.int .i64 0) ∧ w'.cell? ⟨A, m * 10 + 8, none⟩ = some (.int .i64 u) ∧ w'.cell? ⟨A, m * 10 + 9, none⟩ = some (.int .i64 0) ∧ w'.cell? ⟨g, m, none⟩ = some (.int .i64 u)) (first | exact HS0.out | exact HS1'.out) ((first | (go_at_call 13; refine (want_ex _ _ _).mono ?_; rintro e w4 ⟨rfl, rfl⟩)))
      have HST3 := Lib.hid ((HS2.out.drew).want (m : Int) u)
      have HBB := Lib.hid (below_want HBR2.out.drew (Nat.le_refl _) (m : Int) u)
      generalize wantW (m : Int) u w3.drew = w4 at *
      go_wp2
      go_roundw
      case rel => exact ⟨m + 1, by omega, by go_num, HST3.out, HBB.out⟩
      case measure => simp [intOf]; omega
    · have hkk : m = len0 := by omega
      subst hkk
      go_wp2
      have lZ : A < wr.heap.size := by have := lt_of_block HS2.out.hA; exact this
      have HST4 := Lib.hid (HS2.out.alloc (.cells #[.int .i64 0, .pointer none, .pointer none, .int .i64 0, .int .i64 0, .int .i64 0, .int .i64 0, .int .i64 0, .int .i64 0, .int .i64 0] 31))
      have HB4 := Lib.hid (HBR2.out.alloc hszr (.cells #[.int .i64 0, .pointer none, .pointer none, .int .i64 0, .int .i64 0, .int .i64 0, .int .i64 0, .int .i64 0, .int .i64 0, .int .i64 0] 31))
      obtain ⟨Z, hZ⟩ : ∃ Z, Z = wr.heap.size := ⟨_, rfl⟩
      have z : ∀ o, (wr.alloc (.cells #[.int .i64 0, .pointer none, .pointer none, .int .i64 0, .int .i64 0, .int .i64 0, .int .i64 0, .int .i64 0, .int .i64 0, .int .i64 0] 31)).cell? ⟨Z, o, none⟩ = (frm 0 0 0 0)[o]? := fun o => by
        rw [hZ]
        exact cell_of_row _ _ _ _ _ _ (heap_alloc_new _ _)
      rw [← hZ]
      clear hZ
      generalize wr.alloc (.cells #[.int .i64 0, .pointer none, .pointer none, .int .i64 0, .int .i64 0, .int .i64 0, .int .i64 0, .int .i64 0, .int .i64 0, .int .i64 0] 31) = w4 at *
      have HZ := Lib.hid z
      clear z
      go_wp2_with fail
      go_loopw [10] (fun j wq => ∃ k q : Nat, m ≤ k ∧ k ≤ m + sl ∧ j = .int .i64 k ∧ wq = w4.drewN q) (fun j _ => m + sl - (intOf j).toNat)
      case atStart => exact ⟨m, 0, by omega, by omega, rfl, rfl⟩
      case round =>
        obtain ⟨k, q, hk1, hk2, rfl, hwq⟩ := hrel
        have hs5 := HST4.out.drewN q
        have z : ∀ o, (w4.drewN q).cell? ⟨Z, o, none⟩ = (frm 0 0 0 0)[o]? := HZ.out
        rw [← hwq] at hs5 z
        have HWQ := Lib.hid hwq
        have HS5 := Lib.hid hs5
        clear hs5 hwq
        by_cases hkl : k < m + sl
        · obtain ⟨f0, f1, f2, f3, f4, f5, f6, f7, f8, f9⟩ := cells10 HS5.out (HFL.out.2 k hk1 hkl)
          have z0' : wr.cell? ⟨Z, 0, none⟩ = some (.int .i64 0) := z 0
          have z1' : wr.cell? ⟨Z, 1, none⟩ = some (.pointer none) := z 1
          have z2' : wr.cell? ⟨Z, 2, none⟩ = some (.pointer none) := z 2
          have z3' : wr.cell? ⟨Z, 3, none⟩ = some (.int .i64 0) := z 3
          have z4' : wr.cell? ⟨Z, 4, none⟩ = some (.int .i64 0) := z 4
          have z5' : wr.cell? ⟨Z, 5, none⟩ = some (.int .i64 0) := z 5
          have z6' : wr.cell? ⟨Z, 6, none⟩ = some (.int .i64 0) := z 6
          have z7' : wr.cell? ⟨Z, 7, none⟩ = some (.int .i64 0) := z 7
          have z8' : wr.cell? ⟨Z, 8, none⟩ = some (.int .i64 0) := z 8
          have z9' : wr.cell? ⟨Z, 9, none⟩ = some (.int .i64 0) := z 9
          clear z
          have hn1 := nil_fn
          have hn2 := nil_fr
          have hat := fun w h => at_flip A B (m + sl) (m : Int) k arr w h hkl
          have HAT := Lib.hid hat
          clear hat
          go_wp2_with fail
          go_quiet ((go_at_call 15; refine Calls.quiet_of_same (HAT.out _ ?_); exact HS5.out.drewN _))
          go_wp2
          go_roundw
          case rel => exact ⟨k + 1, q + nq, by omega, by omega, by go_num, by rw [HWQ.out, World.drewN_drewN]⟩
          case measure => simp [intOf]; omega
        · have hkk : k = m + sl := by omega
          subst hkk
          go_wp2_with fail
          refine (sp_any A B _ _ arr _ HS5.out).mono ?_; rintro e w5 ⟨rfl, rfl⟩
          go_wp2
          go_ret
          exact ⟨rfl, by rw [HWQ.out]; exact HB1.out.trans ((below_drewN HB4.out q).mono hsz)⟩

end Go.Proofs.Ytgdobbebabjafaa.fnFixedAtReadsPushedFrames
