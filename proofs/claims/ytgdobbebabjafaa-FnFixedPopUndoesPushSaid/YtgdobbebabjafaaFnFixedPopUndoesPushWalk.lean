/- The walk of FnFixedPopUndoesPush. -/
import Derived.Test.YtgdobbebabjafaaSnap120
import Derived.Deep.RegionHeld3
namespace Go.Proofs.Ytgdobbebabjafaa.fnFixedPopUndoesPush
open Go.RowKit
set_option linter.unusedVariables false

set_option maxHeartbeats 400000 in
theorem bytes_no (a0 : Option Addr) (len0 cap0 : Nat) (a1 : Int) (a2 : Int) (w : World) (h : 1048576 < len0) (hm : len0 ≤ maxLen) :
    Calls Try.prog 26 #[.slice a0 len0 cap0, .int .i64 a1, .int .i64 a2] w fun e w' => e = .returned (.bool false) ∧ w = w' := by
  unfold maxLen at hm
  go_enter Try.func26, Try.ntmps26
  go_wp2
  go_ret
  exact ⟨rfl, rfl⟩
set_option maxHeartbeats 400000 in
theorem bytes_yes (a0 : Option Addr) (len0 cap0 : Nat) (a1 : Int) (a2 : Int) (w : World) (h : len0 ≤ 1048576) :
    Calls Try.prog 26 #[.slice a0 len0 cap0, .int .i64 a1, .int .i64 a2] w fun e w' => e = .returned (.bool true) ∧ w = w' := by
  go_enter Try.func26, Try.ntmps26
  go_wp2
  go_ret
  exact ⟨rfl, rfl⟩

set_option maxHeartbeats 4000000 in
set_option maxRecDepth 100000 in
theorem walk (a0 : Option Addr) (len0 cap0 : Nat) (z0 : List Int) (a1 : Int) (a2 : Int) (w : World) (w0 : IsRow .i64 w a0 len0 cap0 z0) (w1 : (Lit.int .i64 a1).wf = true) (w2 : (Lit.int .i64 a2).wf = true) :
    Calls Try.prog 8 #[.slice a0 len0 cap0, .int .i64 a1, .int .i64 a2] w fun e w' => e = .returned (.bool true) ∧ Below w.heap.size w w' := by
  have hl1 := (InRow.len_le w0).1
  have hl2 := (InRow.len_le w0).2
  by_cases hb : 1048576 < len0
  · clear w0
    go_enter Try.func8, Try.ntmps8
    go_wp2_with fail
    refine (bytes_no a0 len0 cap0 a1 a2 _ hb hl2).mono ?_; rintro e w1 ⟨rfl, rfl⟩
    go_wp2
    go_ret
    exact ⟨rfl, Below.refl _ _⟩
  have hb' : len0 ≤ 1048576 := by omega
  by_cases hc : 65536 < len0
  · clear w0 hl1 hl2 hb
    go_enter Try.func8, Try.ntmps8
    go_wp2_with fail
    refine (bytes_yes a0 len0 cap0 a1 a2 _ hb').mono ?_; rintro e w1 ⟨rfl, rfl⟩
    go_wp2
    go_ret
    exact ⟨rfl, Below.refl _ _⟩
  by_cases hs1 : a1 < 1
  · clear w0 hl1 hl2 hb
    go_enter Try.func8, Try.ntmps8
    go_wp2_with fail
    refine (bytes_yes a0 len0 cap0 a1 a2 _ hb').mono ?_; rintro e w1 ⟨rfl, rfl⟩
    go_wp2
    go_ret
    exact ⟨rfl, Below.refl _ _⟩
  by_cases hs2 : 65536 < a1
  · clear w0 hl1 hl2 hb
    go_enter Try.func8, Try.ntmps8
    go_wp2_with fail
    refine (bytes_yes a0 len0 cap0 a1 a2 _ hb').mono ?_; rintro e w1 ⟨rfl, rfl⟩
    go_wp2
    go_ret
    exact ⟨rfl, Below.refl _ _⟩
  obtain ⟨sl, rfl⟩ := Int.eq_ofNat_of_zero_le (show 0 ≤ a1 by omega)
  have hsl : sl ≤ 65536 := by omega
  have hsl1 : 1 ≤ sl := by omega
  clear hs1 hs2 w1
  obtain ⟨l, hl⟩ : ∃ l, l = z0.take len0 := ⟨_, rfl⟩
  have hlen : l.length = len0 := by rw [hl]; simp; omega
  have hclone := cloneInts_any a0 len0 cap0 z0
  rw [← hl] at hclone
  have HCL := Lib.hid hclone
  have W0 := Lib.hid w0
  have HLEN := Lib.hid hlen
  clear hclone hl hl1 hl2 hb w0 hlen
  have hc' : len0 ≤ 65536 := by omega
  clear hc
  go_enter Try.func8, Try.ntmps8
  go_wp2_with fail
  refine (bytes_yes a0 len0 cap0 sl a2 _ hb').mono ?_; rintro e w1 ⟨rfl, rfl⟩
  go_wp2_with fail
  refine (HCL.out _ W0.out (by omega)).mono ?_; rintro e w1 ⟨v, rfl, hown, hb1⟩
  obtain ⟨p, hv⟩ := own_form hown
  rw [HLEN.out] at hv
  subst hv
  have HOWN := Lib.hid hown
  have HB1 := Lib.hid hb1
  have hsz := hb1.size
  clear hown hb1
  go_wp2_with fail
  refine (fill_sum _ _ l len0 sl HLEN.out (by omega) _ HOWN.out).mono ?_; rintro e w2 ⟨A, B, arr, rfl, hA, hB, hst, hfl, hb2⟩
  rw [HLEN.out] at hst hfl
  have HST := Lib.hid hst
  have HFL := Lib.hid hfl
  have HBL2 := Lib.hid hb2
  have hval : ∀ k, k < len0 → ∃ g, p = some ⟨g, 0, none⟩ ∧ g < w1.heap.size ∧ w1.cell? ⟨g, k, none⟩ = some (.int .i64 (l.getD k 0)) := fun k hk => by
    obtain ⟨g, h1, _, h2, h3⟩ := own_cell HOWN.out (0 : Int) (by rw [HLEN.out]; exact hk)
    exact ⟨g, h1, h2, h3⟩
  have HVAL := Lib.hid hval
  clear hval
  have HB2 := Lib.hid (HB1.out.trans (hb2.mono hsz))
  have hA' : w.heap.size ≤ A := by omega
  have hB' : w.heap.size ≤ B := by omega
  have hsz2 := hb2.size
  clear hst hfl hb2
  have hmk := make_run len0 (by omega)
  go_wp2
  have HSN0 := Lib.hid (snap_new len0 w2)
  have HST0 := Lib.hid (HST.out.alloc (.cells (madeCells (frm 0 0 0 0) (len0 * 10)) 31))
  have HBL0 := Lib.hid ((Below.refl w2.heap.size w2).alloc (Nat.le_refl _) (.cells (madeCells (frm 0 0 0 0) (len0 * 10)) 31))
  have lA : A < w2.heap.size := by have := lt_of_block HST.out.hA; exact this
  have lB : B < w2.heap.size := by have := lt_of_block HST.out.hB; exact this
  generalize w2.alloc (.cells (madeCells (frm 0 0 0 0) (len0 * 10)) 31) = w3 at *
  obtain ⟨G, hG⟩ : ∃ G, G = w2.heap.size := ⟨_, rfl⟩
  rw [← hG] at HSN0 HBL0 lA lB
  rw [← hG]
  have HG := Lib.hid hG
  clear hG hmk
  generalize madeCells (frm 0 0 0 0) (len0 * 10) = arr0 at *
  go_wp2_with fail
  go_loopw [10] (fun i wr => ∃ (k : Nat) (arrS : Array Value), k ≤ len0 ∧ i = .int .i64 k ∧ Stk wr A B (len0 + sl) (len0 : Int) arr ∧ Snap wr G len0 arrS ∧ (∀ j, j < k → Fr arrS j j j 0 (l.getD j 0)) ∧ Below G w2 wr) (fun i _ => len0 - (intOf i).toNat)
  case atStart => exact ⟨0, arr0, by omega, rfl, HST0.out, HSN0.out, fun j hj => absurd hj (by omega), HBL0.out⟩
  case round =>
    obtain ⟨k, arrS, hk, rfl, hst, hsn, hfs, hbr⟩ := hrel
    have HS := Lib.hid hst
    have HSN := Lib.hid hsn
    have HFS := Lib.hid hfs
    have HBR := Lib.hid hbr
    clear hst hsn hfs hbr
    by_cases hkl : k < len0
    · obtain ⟨f0, f1, f2, f3, f4, f5, f6, f7, f8, f9⟩ := cells10 HS.out (HFL.out.1 k hkl)
      have hso := snap_some HSN.out (show k < len0 by omega)
      obtain ⟨v0, g0⟩ := hso 0 (by omega)
      obtain ⟨v1, g1⟩ := hso 1 (by omega)
      obtain ⟨v2, g2⟩ := hso 2 (by omega)
      obtain ⟨v3, g3⟩ := hso 3 (by omega)
      obtain ⟨v4, g4⟩ := hso 4 (by omega)
      obtain ⟨v5, g5⟩ := hso 5 (by omega)
      obtain ⟨v6, g6⟩ := hso 6 (by omega)
      obtain ⟨v7, g7⟩ := hso 7 (by omega)
      obtain ⟨v8, g8⟩ := hso 8 (by omega)
      obtain ⟨v9, g9⟩ := hso 9 (by omega)
      rw [Nat.add_zero] at g0
      have fG : ∀ o, wr.frozen? ⟨G, o, none⟩ = false := fun o => frozen_of_row _ _ _ _ _ HSN.out.h
      clear hso
      generalize hu : l.getD k 0 = u at *
      have HU := Lib.hid hu
      clear hu
      go_wp2_with fail
      refine (at_any A B _ _ k arr _ HS.out (by omega)).mono ?_; rintro e w5 ⟨rfl, rfl⟩
      go_wp2
      go_roundw
      case rel =>
        obtain ⟨h1, h2⟩ := HSN.out.store k k k 0 u
        refine ⟨k + 1, _, by omega, by go_num, HS.out.keep h2 (by simp; omega) (by simp; omega), h1, fun j hj => ?_, HBR.out.trans (h2.below ?_ ?_)⟩
        · by_cases e : j = k
          · subst e
            rw [HU.out]
            exact put10_same _ _ _ _ _ _ (by have := HSN.out.size; omega)
          · exact (HFS.out j (by omega)).put10 e _ _ _ _
        · exact Nat.le_of_lt (lt_of_block HSN.out.h)
        · simp
      case measure => simp [intOf]; omega
    · have hkk : k = len0 := by omega
      subst hkk
      go_wp2_with fail
      refine (sp_any A B _ _ arr _ HS.out).mono ?_; rintro e w5 ⟨rfl, rfl⟩
      go_wp2_with fail
      refine (last_gen A B _ k arr _ HS.out (by omega)).mono ?_; rintro e w5 ⟨rfl, q, rfl⟩
      have HS1 := Lib.hid (HS.out.drewN q)
      have HSN1 := Lib.hid (HSN.out.drewN q)
      have HBR1 := Lib.hid (below_drewN HBR.out q)
      generalize wr.drewN q = w5 at *
      have hlp := last_neq (lastPtr A k)
      have hp0 : lastPtr A k = lastPtr A k := rfl
      generalize hL : lastPtr A k = lp at *
      have HL := Lib.hid hL
      clear hL hp0
      generalize hxv : bits BinOp.xor IntKind.i64 (-1) a2 = xv at *
      have HXV := Lib.hid hxv
      clear hxv
      have hGs : G < w5.heap.size := lt_of_block HSN1.out.h
      have lA5 : A < w5.heap.size := Nat.lt_trans lA hGs
      have lB5 : B < w5.heap.size := Nat.lt_trans lB hGs
      go_wp2_with fail
      rw [HXV.out]
      refine (push_any A B (k + sl) k arr (-3) xv a2 a2 _ (HS1.out.alloc _) (by omega)).mono ?_; rintro e w6 ⟨rfl, hp, hkp⟩
      have z : ∀ o, w6.cell? ⟨w5.heap.size, o, none⟩ = (frm (-3) xv a2 a2)[o]? := fun o => by
        rw [hkp.cell (by simp) (by simp; omega)]
        exact cell_of_row _ _ _ _ _ _ (heap_alloc_new _ _)
      have hsn6 := HSN1.out.keep (Keep.alloc (Keep.refl [A, B] w5) _ |>.trans hkp) (by simp; omega)
      have hbr5 : Below w.heap.size w w5 := HB2.out.trans (HBR1.out.mono (by omega))
      have hbr6 := (hbr5.alloc (by omega) _).trans (hkp.below (B := w.heap.size) (by simp; omega) (by simp; omega))
      clear hbr5
      have hs6 : w5.heap.size < w6.heap.size := by have := hkp.size; simp at this; omega
      generalize w5.heap.size = F at *
      have HZ := Lib.hid z
      have hp' : Stk w6 A B (k + sl) ((k + 1 : Nat) : Int) (put arr k (-3) k xv a2 a2) := by rw [Int.natCast_add]; exact hp
      have HP := Lib.hid hp'
      clear hp hp' hkp z
      go_wp2_with fail
      refine (pop_any A B _ k _ _ HP.out (by omega)).mono ?_; rintro e w7 ⟨rfl, q2, rfl⟩
      have hs7 := (HP.out.setSp (k : Int)).drewN q2
      have hk7 : Keep [B] w6 ((w6.setCell ⟨B, 1, none⟩ (.int .i64 (k : Int))).drewN q2) := (keep_sp w6 B _ (by simp)).drewN q2
      have hsn7 := hsn6.keep hk7 (by simp; omega)
      have hbr7 := hbr6.trans (hk7.below (B := w.heap.size) hbr6.size (by simp; omega))
      have z : ∀ o, ((w6.setCell ⟨B, 1, none⟩ (.int .i64 (k : Int))).drewN q2).cell? ⟨F, o, none⟩ = (frm (-3) xv a2 a2)[o]? := fun o => (hk7.cell hs6 (by simp; omega)).trans (HZ.out o)
      have hF7 : F < ((w6.setCell ⟨B, 1, none⟩ (.int .i64 (k : Int))).drewN q2).heap.size := Nat.lt_of_lt_of_le hs6 hk7.size
      generalize (w6.setCell ⟨B, 1, none⟩ (.int .i64 (k : Int))).drewN q2 = w7 at *
      obtain ⟨f0, f1, f2, f3, f4, f5, f6, f7, f8, f9⟩ := cells10 hs7 (put_same arr k (-3) k xv a2 a2 (by have := HS1.out.size; omega))
      have c0 : w7.cell? ⟨F, 0, none⟩ = some (.int .i64 (-3)) := z 0
      have c1 : w7.cell? ⟨F, 1, none⟩ = some (.pointer none) := z 1
      have c2 : w7.cell? ⟨F, 2, none⟩ = some (.pointer none) := z 2
      have c3 : w7.cell? ⟨F, 3, none⟩ = some (.int .i64 xv) := z 3
      have c4 : w7.cell? ⟨F, 4, none⟩ = some (.int .i64 a2) := z 4
      have c5 : w7.cell? ⟨F, 5, none⟩ = some (.int .i64 0) := z 5
      have c6 : w7.cell? ⟨F, 6, none⟩ = some (.int .i64 0) := z 6
      have c7 : w7.cell? ⟨F, 7, none⟩ = some (.int .i64 0) := z 7
      have c8 : w7.cell? ⟨F, 8, none⟩ = some (.int .i64 a2) := z 8
      have c9 : w7.cell? ⟨F, 9, none⟩ = some (.int .i64 0) := z 9
      have hn1 := nil_fn
      have hn2 := nil_fr
      have HS7 := Lib.hid hs7
      have HSN7 := Lib.hid hsn7
      have HBR7 := Lib.hid hbr7
      have lA7 : A < w7.heap.size := by omega
      clear hs7 hsn7 hbr7 hk7 hbr6 hsn6 z
      go_wp2
      clear f0 f1 f2 f3 f4 f5 f6 f7 f8 f9 c0 c1 c2 c3 c4 c5 c6 c7 c8 c9
      have hk8 : Keep [] w7 (w7.alloc (.cells #[.int .i64 k, .pointer none, .pointer none, .int .i64 xv, .int .i64 a2, .int .i64 0, .int .i64 0, .int .i64 0, .int .i64 a2, .int .i64 0] 31)) := (Keep.refl [] w7).alloc _
      have z : ∀ o, (w7.alloc (.cells #[.int .i64 k, .pointer none, .pointer none, .int .i64 xv, .int .i64 a2, .int .i64 0, .int .i64 0, .int .i64 0, .int .i64 a2, .int .i64 0] 31)).cell? ⟨w7.heap.size, o, none⟩ = (frm k xv a2 a2)[o]? := fun o => cell_of_row _ _ _ _ _ _ (heap_alloc_new _ _)
      have hs8 := HS7.out.keep hk8 (by simp) (by simp)
      have hsn8 := HSN7.out.keep hk8 (by simp)
      have hbr8 := HBR7.out.trans (hk8.below HBR7.out.size (by simp))
      generalize w7.alloc (.cells #[.int .i64 k, .pointer none, .pointer none, .int .i64 xv, .int .i64 a2, .int .i64 0, .int .i64 0, .int .i64 0, .int .i64 a2, .int .i64 0] 31) = w8 at *
      generalize w7.heap.size = D at *
      obtain ⟨f0, f1, f2, f3, f4, f5, f6, f7, f8, f9⟩ := cells10 hs8 (put_same arr k (-3) k xv a2 a2 (by have := HS1.out.size; omega))
      have d0 : w8.cell? ⟨D, 0, none⟩ = some (.int .i64 k) := z 0
      have d1 : w8.cell? ⟨D, 1, none⟩ = some (.pointer none) := z 1
      have d2 : w8.cell? ⟨D, 2, none⟩ = some (.pointer none) := z 2
      have d3 : w8.cell? ⟨D, 3, none⟩ = some (.int .i64 xv) := z 3
      have d4 : w8.cell? ⟨D, 4, none⟩ = some (.int .i64 a2) := z 4
      have d5 : w8.cell? ⟨D, 5, none⟩ = some (.int .i64 0) := z 5
      have d6 : w8.cell? ⟨D, 6, none⟩ = some (.int .i64 0) := z 6
      have d7 : w8.cell? ⟨D, 7, none⟩ = some (.int .i64 0) := z 7
      have d8 : w8.cell? ⟨D, 8, none⟩ = some (.int .i64 a2) := z 8
      have d9 : w8.cell? ⟨D, 9, none⟩ = some (.int .i64 0) := z 9
      have HS8 := Lib.hid hs8
      have HSN8 := Lib.hid hsn8
      have HBR8 := Lib.hid hbr8
      clear hs8 hsn8 hbr8 hk8 z
      go_quiet (fail)
      have HS9 := Lib.hid (HS8.out.drewN nq)
      have HSN9 := Lib.hid (HSN8.out.drewN nq)
      have HBR9 := Lib.hid (below_drewN HBR8.out nq)
      clear f0 f1 f2 f3 f4 f5 f6 f7 f8 f9 d0 d1 d2 d3 d4 d5 d6 d7 d8 d9
      generalize w8.drewN nq = w9 at *
      go_wp2_with fail
      refine (sp_any A B _ _ _ _ HS9.out).mono ?_; rintro e w10 ⟨rfl, rfl⟩
      go_wp2_with fail
      refine (last_gen A B _ k _ _ HS9.out (by omega)).mono ?_; rintro e w10 ⟨rfl, q3, rfl⟩
      rw [HL.out]
      go_wp2_with fail
      go_loopw [16] (fun i wr => ∃ j q : Nat, j ≤ k ∧ i = .int .i64 j ∧ wr = w9.drewN q) (fun i _ => k - (intOf i).toNat)
      case atStart => exact ⟨0, q3, by omega, rfl, rfl⟩
      case round =>
        obtain ⟨j, q, hj, rfl, hwq⟩ := hrel
        have hs5 := HS9.out.drewN q
        have hsn5 := HSN9.out.drewN q
        rw [← hwq] at hs5 hsn5
        have HWQ := Lib.hid hwq
        clear hwq
        by_cases hjl : j < k
        · obtain ⟨f0, f1, f2, f3, f4, f5, f6, f7, f8, f9⟩ := cells10 hs5 ((HFL.out.1 j hjl).put (k := k) (by omega) (-3) k xv a2 a2)
          obtain ⟨d0, d1, d2, d3, d4, d5, d6, d7, d8, d9⟩ := snap10 hsn5 (HFS.out j hjl)
          generalize l.getD j 0 = u at *
          have HS5 := Lib.hid hs5
          clear hs5 hsn5
          have hat := fun w h => at_flip A B (k + sl) (k : Int) j (put arr k (-3) k xv a2 a2) w h (by omega)
          have HAT := Lib.hid hat
          clear hat
          go_wp2_with fail
          go_quiet ((go_at_call 15; refine Calls.quiet_of_same (HAT.out _ ?_); exact HS5.out.drewN _))
          go_wp2
          go_roundw
          case rel => exact ⟨j + 1, q + nq, by omega, by go_num, by rw [HWQ.out, World.drewN_drewN]⟩
          case measure => simp [intOf]; omega
        · have hjj : j = k := by omega
          subst hjj
          go_wp2
          go_ret
          exact ⟨rfl, by rw [HWQ.out]; exact below_drewN HBR9.out q⟩

end Go.Proofs.Ytgdobbebabjafaa.fnFixedPopUndoesPush
