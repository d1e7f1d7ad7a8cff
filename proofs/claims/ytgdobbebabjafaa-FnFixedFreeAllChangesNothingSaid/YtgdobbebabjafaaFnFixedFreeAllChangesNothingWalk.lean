/- The walk of FnFixedFreeAllChangesNothing. -/
import Derived.Test.YtgdobbebabjafaaSnap120
import Derived.Deep.RegionHeld3
namespace Go.Proofs.Ytgdobbebabjafaa.fnFixedFreeAllChangesNothing
open Go.RowKit
set_option linter.unusedVariables false

set_option maxHeartbeats 400000 in
theorem bytes_no (a0 : Option Addr) (len0 cap0 : Nat) (a1 : Int) (w : World) (h : 1048576 < len0) (hm : len0 ≤ maxLen) :
    Calls Try.prog 21 #[.slice a0 len0 cap0, .int .i64 a1] w fun e w' => e = .returned (.bool false) ∧ w = w' := by
  unfold maxLen at hm
  go_enter Try.func21, Try.ntmps21
  go_wp2
  go_ret
  exact ⟨rfl, rfl⟩
set_option maxHeartbeats 400000 in
theorem bytes_yes (a0 : Option Addr) (len0 cap0 : Nat) (a1 : Int) (w : World) (h : len0 ≤ 1048576) :
    Calls Try.prog 21 #[.slice a0 len0 cap0, .int .i64 a1] w fun e w' => e = .returned (.bool true) ∧ w = w' := by
  go_enter Try.func21, Try.ntmps21
  go_wp2
  go_ret
  exact ⟨rfl, rfl⟩

set_option maxHeartbeats 4000000 in
set_option maxRecDepth 100000 in
theorem walk (a0 : Option Addr) (len0 cap0 : Nat) (z0 : List Int) (a1 : Int) (w : World) (w0 : IsRow .i64 w a0 len0 cap0 z0) (w1 : (Lit.int .i64 a1).wf = true) :
    Calls Try.prog 6 #[.slice a0 len0 cap0, .int .i64 a1] w fun e w' => e = .returned (.bool true) ∧ Below w.heap.size w w' := by
  have hl1 := (InRow.len_le w0).1
  have hl2 := (InRow.len_le w0).2
  by_cases hb : 1048576 < len0
  · clear w0
    go_enter Try.func6, Try.ntmps6
    go_wp2_with fail
    refine (bytes_no a0 len0 cap0 a1 _ hb hl2).mono ?_; rintro e w1 ⟨rfl, rfl⟩
    go_wp2
    go_ret
    exact ⟨rfl, Below.refl _ _⟩
  have hb' : len0 ≤ 1048576 := by omega
  by_cases hc : 65536 < len0
  · clear w0 hl1 hl2 hb
    go_enter Try.func6, Try.ntmps6
    go_wp2_with fail
    refine (bytes_yes a0 len0 cap0 a1 _ hb').mono ?_; rintro e w1 ⟨rfl, rfl⟩
    go_wp2
    go_ret
    exact ⟨rfl, Below.refl _ _⟩
  by_cases hs1 : a1 < 0
  · clear w0 hl1 hl2 hb
    go_enter Try.func6, Try.ntmps6
    go_wp2_with fail
    refine (bytes_yes a0 len0 cap0 a1 _ hb').mono ?_; rintro e w1 ⟨rfl, rfl⟩
    go_wp2
    go_ret
    exact ⟨rfl, Below.refl _ _⟩
  by_cases hs2 : 65536 < a1
  · clear w0 hl1 hl2 hb
    go_enter Try.func6, Try.ntmps6
    go_wp2_with fail
    refine (bytes_yes a0 len0 cap0 a1 _ hb').mono ?_; rintro e w1 ⟨rfl, rfl⟩
    go_wp2
    go_ret
    exact ⟨rfl, Below.refl _ _⟩
  obtain ⟨sl, rfl⟩ := Int.eq_ofNat_of_zero_le (show 0 ≤ a1 by omega)
  have hsl : sl ≤ 65536 := by omega
  clear hs1 hs2 w1
  obtain ⟨l, hl⟩ : ∃ l, l = z0.take len0 := ⟨_, rfl⟩
  have hlen : l.length = len0 := by rw [hl]; simp; omega
  have hclone := cloneInts_any a0 len0 cap0 z0
  rw [← hl] at hclone
  have HCL := Lib.hid hclone
  have W0 := Lib.hid w0
  have HLEN := Lib.hid hlen
  clear hclone hl hl1 hl2 hb w0 hlen
  have hc' : len0 ≤ 65536 := by omega
  clear hc
  go_enter Try.func6, Try.ntmps6
  go_wp2_with fail
  refine (bytes_yes a0 len0 cap0 sl _ hb').mono ?_; rintro e w1 ⟨rfl, rfl⟩
  go_wp2_with fail
  refine (HCL.out _ W0.out (by omega)).mono ?_; rintro e w1 ⟨v, rfl, hown, hb1⟩
  obtain ⟨p, hv⟩ := own_form hown
  rw [HLEN.out] at hv
  subst hv
  have HOWN := Lib.hid hown
  have HB1 := Lib.hid hb1
  have hsz := hb1.size
  clear hown hb1
  go_wp2_with fail
  refine (fill_sum _ _ l len0 sl HLEN.out (by omega) _ HOWN.out).mono ?_; rintro e w2 ⟨A, B, arr, rfl, hA, hB, hst, hfl, hb2⟩
  rw [HLEN.out] at hst hfl
  have HST := Lib.hid hst
  have HFL := Lib.hid hfl
  have HBL2 := Lib.hid hb2
  have hval : ∀ k, k < len0 → ∃ g, p = some ⟨g, 0, none⟩ ∧ g < w1.heap.size ∧ w1.cell? ⟨g, k, none⟩ = some (.int .i64 (l.getD k 0)) := fun k hk => by
    obtain ⟨g, h1, _, h2, h3⟩ := own_cell HOWN.out (0 : Int) (by rw [HLEN.out]; exact hk)
    exact ⟨g, h1, h2, h3⟩
  have HVAL := Lib.hid hval
  clear hval
  have HB2 := Lib.hid (HB1.out.trans (hb2.mono hsz))
  have hA' : w.heap.size ≤ A := by omega
  have hB' : w.heap.size ≤ B := by omega
  have hsz2 := hb2.size
  clear hst hfl hb2
  have hmk := make_run (len0 + sl) (by omega)
  rw [Int.natCast_add] at hmk
  have hns : (0 : Int) ≤ (len0 : Int) + (sl : Int) := by omega
  go_wp2
  have HSN0 := Lib.hid (snap_new (len0 + sl) w2)
  have HST0 := Lib.hid (HST.out.alloc (.cells (madeCells (frm 0 0 0 0) ((len0 + sl) * 10)) 31))
  have HBL0 := Lib.hid ((Below.refl w2.heap.size w2).alloc (Nat.le_refl _) (.cells (madeCells (frm 0 0 0 0) ((len0 + sl) * 10)) 31))
  have lA : A < w2.heap.size := by have := lt_of_block HST.out.hA; exact this
  have lB : B < w2.heap.size := by have := lt_of_block HST.out.hB; exact this
  generalize w2.alloc (.cells (madeCells (frm 0 0 0 0) ((len0 + sl) * 10)) 31) = w3 at *
  obtain ⟨G, hG⟩ : ∃ G, G = w2.heap.size := ⟨_, rfl⟩
  rw [← hG] at HSN0 HBL0 lA lB
  rw [← hG]
  have HG := Lib.hid hG
  clear hG hmk
  generalize madeCells (frm 0 0 0 0) ((len0 + sl) * 10) = arr0 at *
  go_wp2_with fail
  go_loopw [8] (fun i wr => ∃ (k : Nat) (arrS : Array Value), k ≤ len0 + sl ∧ i = .int .i64 k ∧ Stk wr A B (len0 + sl) (len0 : Int) arr ∧ Snap wr G (len0 + sl) arrS ∧ (∀ j, j < k → Same arrS arr j) ∧ Below G w2 wr) (fun i _ => len0 + sl - (intOf i).toNat)
  case atStart => exact ⟨0, arr0, by omega, rfl, HST0.out, HSN0.out, fun j hj => absurd hj (by omega), HBL0.out⟩
  case round =>
    obtain ⟨k, arrS, hk, rfl, hst, hsn, hfs, hbr⟩ := hrel
    have HS := Lib.hid hst
    have HSN := Lib.hid hsn
    have HFS := Lib.hid hfs
    have HBR := Lib.hid hbr
    clear hst hsn hfs hbr
    by_cases hkl : k < len0 + sl
    · obtain ⟨x, u, hfr, _⟩ := HFL.out.all hkl
      obtain ⟨f0, f1, f2, f3, f4, f5, f6, f7, f8, f9⟩ := cells10 HS.out hfr
      have HFR := Lib.hid hfr
      clear hfr
      have hso := snap_some HSN.out (show k < len0 + sl by omega)
      obtain ⟨v0, g0⟩ := hso 0 (by omega)
      obtain ⟨v1, g1⟩ := hso 1 (by omega)
      obtain ⟨v2, g2⟩ := hso 2 (by omega)
      obtain ⟨v3, g3⟩ := hso 3 (by omega)
      obtain ⟨v4, g4⟩ := hso 4 (by omega)
      obtain ⟨v5, g5⟩ := hso 5 (by omega)
      obtain ⟨v6, g6⟩ := hso 6 (by omega)
      obtain ⟨v7, g7⟩ := hso 7 (by omega)
      obtain ⟨v8, g8⟩ := hso 8 (by omega)
      obtain ⟨v9, g9⟩ := hso 9 (by omega)
      rw [Nat.add_zero] at g0
      have fG : ∀ o, wr.frozen? ⟨G, o, none⟩ = false := fun o => frozen_of_row _ _ _ _ _ HSN.out.h
      clear hso
      go_wp2_with fail
      refine (at_any A B _ _ k arr _ HS.out (by omega)).mono ?_; rintro e w5 ⟨rfl, rfl⟩
      go_wp2
      go_roundw
      case rel =>
        obtain ⟨h1, h2⟩ := HSN.out.store k x x 0 u
        exact ⟨k + 1, _, by omega, by go_num, HS.out.keep h2 (by simp; omega) (by simp; omega), h1, Same.step HFS.out HFR.out HSN.out.size hkl, HBR.out.trans (h2.below (Nat.le_of_lt (lt_of_block HSN.out.h)) (by simp))⟩
      case measure => simp [intOf]; omega
    · have hkk : k = len0 + sl := by omega
      subst hkk
      go_wp2_with fail
      refine (freeAll_any B _).mono ?_; rintro e w5 ⟨rfl, rfl⟩
      go_wp2_with fail
      refine (sp_any A B _ _ arr _ HS.out).mono ?_; rintro e w5 ⟨rfl, rfl⟩
      go_wp2_with fail
      refine (isEmpty_is A B _ _ arr _ ((len0 : Int) == 0) rfl HS.out).mono ?_; rintro e w5 ⟨rfl, rfl⟩
      obtain ⟨w9, rfl⟩ : ∃ w9 : World, w9 = wr := ⟨_, rfl⟩
      go_wp2_with fail
      go_loopw [9] (fun i wr => ∃ j q : Nat, j ≤ len0 + sl ∧ i = .int .i64 j ∧ wr = w9.drewN q) (fun i _ => len0 + sl - (intOf i).toNat)
      case atStart => exact ⟨0, 0, by omega, rfl, rfl⟩
      case round =>
        obtain ⟨j, q, hj, rfl, hwq⟩ := hrel
        have hs5 := HS.out.drewN q
        have hsn5 := HSN.out.drewN q
        rw [← hwq] at hs5 hsn5
        have HWQ := Lib.hid hwq
        clear hwq
        by_cases hjl : j < len0 + sl
        · obtain ⟨x, u, hfr, _⟩ := HFL.out.all hjl
          obtain ⟨f0, f1, f2, f3, f4, f5, f6, f7, f8, f9⟩ := cells10 hs5 hfr
          obtain ⟨d0, d1, d2, d3, d4, d5, d6, d7, d8, d9⟩ := snap10 hsn5 ((HFS.out j hjl).fr hfr)
          have HS5 := Lib.hid hs5
          clear hs5 hsn5 hfr
          have hn1 := nil_fn
          have hn2 := nil_fr
          have hat := fun w h => at_flip A B (len0 + sl) (len0 : Int) j arr w h (by omega)
          have HAT := Lib.hid hat
          clear hat
          go_wp2_with fail
          go_quiet ((go_at_call 15; refine Calls.quiet_of_same (HAT.out _ ?_); exact HS5.out.drewN _))
          go_wp2
          go_roundw
          case rel => exact ⟨j + 1, q + nq, by omega, by go_num, by rw [HWQ.out, World.drewN_drewN]⟩
          case measure => simp [intOf]; omega
        · have hji : ¬ (j : Int) < (len0 : Int) + (sl : Int) := by omega
          have hbr5 : Below w.heap.size w wr := by rw [HWQ.out]; exact HB2.out.trans ((below_drewN HBR.out q).mono (by omega))
          have HBR5 := Lib.hid hbr5
          have HS5 := Lib.hid hs5
          have HSN5 := Lib.hid hsn5
          clear hbr5 hs5 hsn5
          obtain ⟨w6, rfl⟩ : ∃ w6 : World, w6 = wr := ⟨_, rfl⟩
          clear HWQ
          go_wp2_with fail
          go_loopw [10, 11] (fun i _ wr => ∃ d : Nat, d ≤ len0 ∧ i = .int .i64 ((d : Int) - 1) ∧ Stk wr A B (len0 + sl) (d : Int) arr ∧ Snap wr G (len0 + sl) arrS ∧ Below w.heap.size w wr) (fun i _ _ => (intOf i + 1).toNat)
          case atStart => exact ⟨len0, by omega, rfl, HS5.out, HSN5.out, HBR5.out⟩
          case round =>
            obtain ⟨d, hd, rfl, hst, hsn, hbr⟩ := hrel
            have HS := Lib.hid hst
            have HSN := Lib.hid hsn
            have HBR := Lib.hid hbr
            clear hst hsn hbr
            cases d with
            | zero =>
              have ez : (((0 : Nat) : Int) - 1) = -1 := by omega
              rw [ez]
              clear ez
              go_wp2_with fail
              refine (isEmpty_is A B _ 0 arr _ true rfl HS.out).mono ?_; rintro e w3 ⟨rfl, rfl⟩
              go_wp2
              go_ret
              exact ⟨rfl, HBR.out⟩
            | succ m =>
              have ef : (((m + 1 : Nat) : Int) - 1) = (m : Int) := by omega
              rw [ef]
              clear ef
              have hs1 : Stk wr A B (len0 + sl) ((m + 1 : Nat) : Int) arr := HS.out
              have HS1 := Lib.hid hs1
              clear hs1
              go_wp2_with fail
              refine (pop_any A B _ m arr _ HS1.out (by omega)).mono ?_; rintro e w3 ⟨rfl, q2, rfl⟩
              have hst2 := (HS.out.setSp (m : Int)).drewN q2
              have hk2 : Keep [B] wr ((wr.setCell ⟨B, 1, none⟩ (.int .i64 (m : Int))).drewN q2) := (keep_sp wr B _ (by simp)).drewN q2
              have hsn2 := HSN.out.keep hk2 (by simp; omega)
              have hbr2 := HBR.out.trans (hk2.below (B := w.heap.size) HBR.out.size (by simp; omega))
              generalize (wr.setCell ⟨B, 1, none⟩ (.int .i64 (m : Int))).drewN q2 = w7 at *
              have hml : m < len0 := by omega
              obtain ⟨x, u, hfr, hx⟩ := HFL.out.all (show m < len0 + sl by omega)
              have hx' := hx hml
              subst hx'
              obtain ⟨f0, f1, f2, f3, f4, f5, f6, f7, f8, f9⟩ := cells10 hst2 hfr
              obtain ⟨d0, d1, d2, d3, d4, d5, d6, d7, d8, d9⟩ := snap10 hsn2 ((HFS.out m (by omega)).fr hfr)
              have HS2 := Lib.hid hst2
              have HSN2 := Lib.hid hsn2
              have HBR2 := Lib.hid hbr2
              clear hst2 hsn2 hbr2 hfr hx hk2
              have hm1 : (0 : Int) ≤ (m : Int) := by omega
              have hm2 : (m : Int) < (len0 : Int) + (sl : Int) := by omega
              have hn1 := nil_fn
              have hn2 := nil_fr
              go_wp2
              go_quiet (fail)
              go_wp2
              go_roundw
              case rel => exact ⟨m, by omega, by go_num, HS2.out.drewN nq, HSN2.out.drewN nq, below_drewN HBR2.out nq⟩
              case measure => simp [intOf]

end Go.Proofs.Ytgdobbebabjafaa.fnFixedFreeAllChangesNothing
