/- The walk of FnFixedFreeAllInvisibleInScript. -/
import Derived.Test.YtgdobbebabjafaaSnap120
import Derived.Deep.RegionHeld3
namespace Go.Proofs.Ytgdobbebabjafaa.fnFixedFreeAllInvisibleInScript
open Go.RowKit
set_option linter.unusedVariables false

set_option maxHeartbeats 400000 in
theorem bytes_no (a0 : Option Addr) (len0 cap0 : Nat) (w : World) (h : 1048576 < len0) (hm : len0 ≤ maxLen) :
    Calls Try.prog 23 #[.slice a0 len0 cap0] w fun e w' => e = .returned (.bool false) ∧ w = w' := by
  unfold maxLen at hm
  go_enter Try.func23, Try.ntmps23
  go_wp2
  go_ret
  exact ⟨rfl, rfl⟩
set_option maxHeartbeats 400000 in
theorem bytes_yes (a0 : Option Addr) (len0 cap0 : Nat) (w : World) (h : len0 ≤ 1048576) :
    Calls Try.prog 23 #[.slice a0 len0 cap0] w fun e w' => e = .returned (.bool true) ∧ w = w' := by
  go_enter Try.func23, Try.ntmps23
  go_wp2
  go_ret
  exact ⟨rfl, rfl⟩


/-- The two rows hold the same frames. -/
def Both (n : Nat) (arr arr' : Array Value) : Prop := ∀ i, i < n → ∃ x p c r, Fr arr i x p c r ∧ Fr arr' i x p c r
theorem Both.put {n : Nat} {arr arr' : Array Value} (h : Both n arr arr') {k : Nat} (h1 : arr.size = n * 10) (h2 : arr'.size = n * 10) (hk : k < n) (x0 p c r : Int) : Both n (Go.Proofs.Ytgdobbebabjafaa.put arr k x0 k p c r) (Go.Proofs.Ytgdobbebabjafaa.put arr' k x0 k p c r) := fun i hi => by
  by_cases e : i = k
  · subst e
    exact ⟨i, p, c, r, put_same _ _ _ _ _ _ _ (by omega), put_same _ _ _ _ _ _ _ (by omega)⟩
  · obtain ⟨x, p', c', r', a, b⟩ := h i hi
    exact ⟨x, p', c', r', a.put e _ _ _ _ _, b.put e _ _ _ _ _⟩
theorem new_sum (n : Nat) (hn : n ≤ 131072) (w : World) :
    Calls Try.prog 24 #[.int .i64 n] w fun e w' => ∃ A B arr, e = .returned (.pointer (some ⟨B, 0, none⟩)) ∧ w.heap.size ≤ A ∧ w.heap.size ≤ B ∧ Stk w' A B n 0 arr ∧ (∀ i, i < n → Fr arr i 0 0 0 0) ∧ Below w.heap.size w w' :=
  (zznew_any n hn w).mono fun e w' ⟨he, arr, h1, h2, h3⟩ => ⟨_, _, arr, he, Nat.le_refl _, by omega, h1, h2, h3⟩
set_option maxHeartbeats 4000000 in
set_option maxRecDepth 100000 in
theorem walk (a0 : Option Addr) (len0 cap0 : Nat) (z0 : List Int) (w : World) (w0 : IsRow .i64 w a0 len0 cap0 z0) :
    Calls Try.prog 7 #[.slice a0 len0 cap0] w fun e w' => e = .returned (.bool true) ∧ Below w.heap.size w w' := by
  have hl1 := (InRow.len_le w0).1
  have hl2 := (InRow.len_le w0).2
  by_cases hb : 1048576 < len0
  · clear w0
    go_enter Try.func7, Try.ntmps7
    go_wp2_with fail
    refine (bytes_no a0 len0 cap0  _ hb hl2).mono ?_; rintro e w1 ⟨rfl, rfl⟩
    go_wp2
    go_ret
    exact ⟨rfl, Below.refl _ _⟩
  have hb' : len0 ≤ 1048576 := by omega
  by_cases hc : 65536 < len0
  · clear w0 hl1 hl2 hb
    go_enter Try.func7, Try.ntmps7
    go_wp2_with fail
    refine (bytes_yes a0 len0 cap0  _ hb').mono ?_; rintro e w1 ⟨rfl, rfl⟩
    go_wp2
    go_ret
    exact ⟨rfl, Below.refl _ _⟩
  obtain ⟨l, hl⟩ : ∃ l, l = z0.take len0 := ⟨_, rfl⟩
  have hlen : l.length = len0 := by rw [hl]; simp; omega
  have hclone := cloneInts_any a0 len0 cap0 z0
  rw [← hl] at hclone
  have HCL := Lib.hid hclone
  have W0 := Lib.hid w0
  have HLEN := Lib.hid hlen
  clear hclone hl hl1 hl2 hb w0 hlen
  have hc' : len0 ≤ 65536 := by omega
  clear hc
  go_enter Try.func7, Try.ntmps7
  go_wp2_with fail
  refine (bytes_yes a0 len0 cap0  _ hb').mono ?_; rintro e w1 ⟨rfl, rfl⟩
  go_wp2_with fail
  refine (HCL.out _ W0.out (by omega)).mono ?_; rintro e w1 ⟨v, rfl, hown, hb1⟩
  obtain ⟨p, hv⟩ := own_form hown
  rw [HLEN.out] at hv
  subst hv
  have HOWN := Lib.hid hown
  have HB1 := Lib.hid hb1
  have hsz := hb1.size
  clear hown hb1
  have hval : ∀ k, k < len0 → ∃ g, p = some ⟨g, 0, none⟩ ∧ g < w1.heap.size ∧ w1.cell? ⟨g, k, none⟩ = some (.int .i64 (l.getD k 0)) := fun k hk => by
    obtain ⟨g, h1, _, h2, h3⟩ := own_cell HOWN.out (0 : Int) (by rw [HLEN.out]; exact hk)
    exact ⟨g, h1, h2, h3⟩
  have HVAL := Lib.hid hval
  clear hval
  go_wp2_with fail
  refine (new_sum len0 (by omega) _).mono ?_; rintro e w2 ⟨A, B, arr0, rfl, hA, hB, hs1, hf1, hb1⟩
  have hsz1 := hb1.size
  have lA := lt_of_block hs1.hA
  have lB := lt_of_block hs1.hB
  have HS1 := Lib.hid hs1
  have HF1 := Lib.hid hf1
  have HBB1 := Lib.hid hb1
  clear hs1 hf1 hb1
  go_wp2_with fail
  refine (new_sum len0 (by omega) _).mono ?_; rintro e w3 ⟨C, D, arr1, rfl, hC, hD, hs2, hf2, hb2⟩
  have HS1' := Lib.hid (HS1.out.keep (Keep.of_below (S := []) hb2) (by simp) (by simp))
  have HS2 := Lib.hid hs2
  have HF2 := Lib.hid hf2
  have HBB2 := Lib.hid (HBB1.out.trans (hb2.mono hsz1))
  have hsz2 := hb2.size
  clear hs2 hf2 hb2
  have hboth : Both len0 arr0 arr1 := fun i hi => ⟨0, 0, 0, 0, HF1.out i hi, HF2.out i hi⟩
  have HBOTH := Lib.hid hboth
  clear hboth HF1 HF2
  go_wp2_with fail
  go_loopw [6] (fun i wr => ∃ (k sp : Nat) (arr arr' : Array Value), k ≤ len0 ∧ i = .int .i64 k ∧ sp ≤ k ∧ Stk wr A B len0 (sp : Int) arr ∧ Stk wr C D len0 (sp : Int) arr' ∧ Both len0 arr arr' ∧ Below w1.heap.size w1 wr) (fun i _ => len0 - (intOf i).toNat)
  case atStart => exact ⟨0, 0, arr0, arr1, by omega, rfl, by omega, HS1'.out, HS2.out, HBOTH.out, HBB2.out⟩
  case round =>
    obtain ⟨k, sp, arr, arr', hk, rfl, hsp, ha, hc, hbo, hbr⟩ := hrel
    have HA := Lib.hid ha
    have HC := Lib.hid hc
    have HBO := Lib.hid hbo
    have HBR := Lib.hid hbr
    have hszr := hbr.size
    have lAr := lt_of_block ha.hA
    have lBr := lt_of_block ha.hB
    have lCr := lt_of_block hc.hA
    have lDr := lt_of_block hc.hB
    clear ha hc hbo hbr
    by_cases hkl : k < len0
    · obtain ⟨g, hp, hg, hcv⟩ := HVAL.out k hkl
      subst hp
      have o1 : wr.cell? ⟨g, k, none⟩ = some (.int .i64 (l.getD k 0)) := (HBR.out.cell (p := ⟨g, k, none⟩) hg).trans hcv
      generalize l.getD k 0 = u at *
      have lgr : g < wr.heap.size := Nat.lt_of_lt_of_le hg hszr
      clear hcv
      by_cases hu : 0 ≤ u
      · go_wp2_with fail
        have HAF := Lib.hid (HA.out.alloc (.cells #[.int .i64 0, .pointer none, .pointer none, .int .i64 k, .int .i64 0, .int .i64 0, .int .i64 0, .int .i64 0, .int .i64 u, .int .i64 0] 31))
        have HCF := Lib.hid (HC.out.alloc (.cells #[.int .i64 0, .pointer none, .pointer none, .int .i64 k, .int .i64 0, .int .i64 0, .int .i64 0, .int .i64 0, .int .i64 u, .int .i64 0] 31))
        have HBF := Lib.hid (HBR.out.alloc hszr (.cells #[.int .i64 0, .pointer none, .pointer none, .int .i64 k, .int .i64 0, .int .i64 0, .int .i64 0, .int .i64 0, .int .i64 u, .int .i64 0] 31))
        have HZ := Lib.hid (show ∀ o, (wr.alloc (.cells #[.int .i64 0, .pointer none, .pointer none, .int .i64 k, .int .i64 0, .int .i64 0, .int .i64 0, .int .i64 0, .int .i64 u, .int .i64 0] 31)).cell? ⟨wr.heap.size, o, none⟩ = (frm 0 k 0 u)[o]? from fun o => cell_of_row _ _ _ _ _ _ (heap_alloc_new _ _))
        have hFs : wr.heap.size < (wr.alloc (.cells #[.int .i64 0, .pointer none, .pointer none, .int .i64 k, .int .i64 0, .int .i64 0, .int .i64 0, .int .i64 0, .int .i64 u, .int .i64 0] 31)).heap.size := by simp
        generalize wr.alloc (.cells #[.int .i64 0, .pointer none, .pointer none, .int .i64 k, .int .i64 0, .int .i64 0, .int .i64 0, .int .i64 0, .int .i64 u, .int .i64 0] 31) = w4 at *
        generalize wr.heap.size = F at *
        refine (push_any A B len0 sp arr 0 k 0 u _ HAF.out (by omega)).mono ?_; rintro e w5 ⟨rfl, hp5, hk5⟩
        have hc5 := HCF.out.keep hk5 (by simp; omega) (by simp; omega)
        have hbr5 := HBF.out.trans (hk5.below (B := w1.heap.size) HBF.out.size (by simp; omega))
        have z : ∀ o, w5.cell? ⟨F, o, none⟩ = (frm 0 k 0 u)[o]? := fun o => (hk5.cell hFs (by simp; omega)).trans (HZ.out o)
        have z0' : w5.cell? ⟨F, 0, none⟩ = some (.int .i64 0) := z 0
        have z1' : w5.cell? ⟨F, 1, none⟩ = some (.pointer none) := z 1
        have z2' : w5.cell? ⟨F, 2, none⟩ = some (.pointer none) := z 2
        have z3' : w5.cell? ⟨F, 3, none⟩ = some (.int .i64 k) := z 3
        have z4' : w5.cell? ⟨F, 4, none⟩ = some (.int .i64 0) := z 4
        have z5' : w5.cell? ⟨F, 5, none⟩ = some (.int .i64 0) := z 5
        have z6' : w5.cell? ⟨F, 6, none⟩ = some (.int .i64 0) := z 6
        have z7' : w5.cell? ⟨F, 7, none⟩ = some (.int .i64 0) := z 7
        have z8' : w5.cell? ⟨F, 8, none⟩ = some (.int .i64 u) := z 8
        have z9' : w5.cell? ⟨F, 9, none⟩ = some (.int .i64 0) := z 9
        have HP5 := Lib.hid hp5
        have HC5 := Lib.hid hc5
        have HBR5 := Lib.hid hbr5
        clear hp5 hk5 hc5 hbr5 z
        go_wp2_with fail
        refine (push_any C D len0 sp arr' 0 k 0 u _ HC5.out (by omega)).mono ?_; rintro e w6 ⟨rfl, hp6, hk6⟩
        have HA := Lib.hid (HP5.out.keep hk6 (by simp; omega) (by simp; omega))
        have HC := Lib.hid hp6
        have HBR6 := Lib.hid (HBR5.out.trans (hk6.below (B := w1.heap.size) HBR5.out.size (by simp; omega)))
        have HBO6 := Lib.hid (HBO.out.put HAF.out.size HCF.out.size (show sp < len0 by omega) 0 k 0 u)
        clear hp6 hk6
        have hz : (((sp : Int) + 1) == 0) = false := by simp; omega
        go_wp2_with fail
        refine (freeAll_any D _).mono ?_; rintro e w7 ⟨rfl, rfl⟩
        go_wp2_with fail
        refine (sp_any A B _ _ _ _ HA.out).mono ?_; rintro e w7 ⟨rfl, rfl⟩
        go_wp2_with fail
        refine (sp_any C D _ _ _ _ HC.out).mono ?_; rintro e w7 ⟨rfl, rfl⟩
        go_wp2_with fail
        refine (isEmpty_is A B _ _ _ _ false hz HA.out).mono ?_; rintro e w7 ⟨rfl, rfl⟩
        go_wp2_with fail
        refine (isEmpty_is C D _ _ _ _ false hz HC.out).mono ?_; rintro e w7 ⟨rfl, rfl⟩
        go_wp2
        go_roundw
        case rel => exact ⟨k + 1, sp + 1, _, _, by omega, by go_num, by omega, by rw [Int.natCast_add]; exact HA.out, by rw [Int.natCast_add]; exact HC.out, HBO6.out, HBR6.out⟩
        case measure => simp [intOf]; omega
      · have hu' : u < 0 := by omega
        cases sp with
        | zero =>
          go_wp2_with fail
          refine (isEmpty_is A B _ 0 arr _ true rfl HA.out).mono ?_; rintro e w3 ⟨rfl, rfl⟩
          go_wp2_with fail
          refine (freeAll_any D _).mono ?_; rintro e w7 ⟨rfl, rfl⟩
          go_wp2_with fail
          refine (sp_any A B _ _ _ _ HA.out).mono ?_; rintro e w7 ⟨rfl, rfl⟩
          go_wp2_with fail
          refine (sp_any C D _ _ _ _ HC.out).mono ?_; rintro e w7 ⟨rfl, rfl⟩
          go_wp2_with fail
          refine (isEmpty_is A B _ _ _ _ true rfl HA.out).mono ?_; rintro e w7 ⟨rfl, rfl⟩
          go_wp2_with fail
          refine (isEmpty_is C D _ _ _ _ true rfl HC.out).mono ?_; rintro e w7 ⟨rfl, rfl⟩
          go_wp2
          go_roundw
          case rel => exact ⟨k + 1, 0, _, _, by omega, by go_num, by omega, HA.out, HC.out, HBO.out, HBR.out⟩
          case measure => simp [intOf]; omega
        | succ m =>
          have hz1 : ((((m + 1 : Nat) : Int)) == 0) = false := by simp; omega
          go_wp2_with fail
          refine (isEmpty_is A B _ _ arr _ false hz1 HA.out).mono ?_; rintro e w3 ⟨rfl, rfl⟩
          go_wp2_with fail
          refine (pop_any A B _ m arr _ HA.out (by omega)).mono ?_; rintro e w3 ⟨rfl, q, rfl⟩
          have ha2 := (HA.out.setSp (m : Int)).drewN q
          have hk2 : Keep [B] wr ((wr.setCell ⟨B, 1, none⟩ (.int .i64 (m : Int))).drewN q) := (keep_sp wr B _ (by simp)).drewN q
          have hc2 := HC.out.keep hk2 (by simp; omega) (by simp; omega)
          have hbr2 := HBR.out.trans (hk2.below (B := w1.heap.size) hszr (by simp; omega))
          generalize (wr.setCell ⟨B, 1, none⟩ (.int .i64 (m : Int))).drewN q = w4 at *
          have HA2 := Lib.hid ha2
          have HC2 := Lib.hid hc2
          have HBR2 := Lib.hid hbr2
          clear ha2 hc2 hbr2 hk2
          go_wp2_with fail
          refine (pop_any C D _ m arr' _ HC2.out (by omega)).mono ?_; rintro e w5 ⟨rfl, q2, rfl⟩
          have hc3 := (HC2.out.setSp (m : Int)).drewN q2
          have hk3 : Keep [D] w4 ((w4.setCell ⟨D, 1, none⟩ (.int .i64 (m : Int))).drewN q2) := (keep_sp w4 D _ (by simp)).drewN q2
          have ha3 := HA2.out.keep hk3 (by simp; omega) (by simp; omega)
          have hbr3 := HBR2.out.trans (hk3.below (B := w1.heap.size) HBR2.out.size (by simp; omega))
          generalize (w4.setCell ⟨D, 1, none⟩ (.int .i64 (m : Int))).drewN q2 = w5 at *
          obtain ⟨x, pc, bb, rr, hfa, hfc⟩ := HBO.out m (by omega)
          obtain ⟨f0, f1, f2, f3, f4, f5, f6, f7, f8, f9⟩ := cells10 ha3 hfa
          obtain ⟨d0, d1, d2, d3, d4, d5, d6, d7, d8, d9⟩ := cells10 hc3 hfc
          have HA3 := Lib.hid ha3
          have HC3 := Lib.hid hc3
          have HBR3 := Lib.hid hbr3
          clear ha3 hc3 hbr3 hk3 hfa hfc o1
          have hn1 := nil_fn
          have hn2 := nil_fr
          go_wp2_with fail
          go_quiet (fail)
          have HA := Lib.hid (HA3.out.drewN nq)
          have HC := Lib.hid (HC3.out.drewN nq)
          have HBR4 := Lib.hid (below_drewN HBR3.out nq)
          clear f0 f1 f2 f3 f4 f5 f6 f7 f8 f9 d0 d1 d2 d3 d4 d5 d6 d7 d8 d9
          generalize w5.drewN nq = w6 at *
          go_wp2_with fail
          refine (freeAll_any D _).mono ?_; rintro e w7 ⟨rfl, rfl⟩
          go_wp2_with fail
          refine (sp_any A B _ _ _ _ HA.out).mono ?_; rintro e w7 ⟨rfl, rfl⟩
          go_wp2_with fail
          refine (sp_any C D _ _ _ _ HC.out).mono ?_; rintro e w7 ⟨rfl, rfl⟩
          go_wp2_with fail
          refine (isEmpty_is A B _ _ _ _ ((m : Int) == 0) rfl HA.out).mono ?_; rintro e w7 ⟨rfl, rfl⟩
          go_wp2_with fail
          refine (isEmpty_is C D _ _ _ _ ((m : Int) == 0) rfl HC.out).mono ?_; rintro e w7 ⟨rfl, rfl⟩
          go_wp2
          go_roundw
          case rel => exact ⟨k + 1, m, _, _, by omega, by go_num, by omega, HA.out, HC.out, HBO.out, HBR4.out⟩
          case measure => simp [intOf]; omega
    · have hkk : k = len0 := by omega
      subst hkk
      obtain ⟨w9, rfl⟩ : ∃ w9 : World, w9 = wr := ⟨_, rfl⟩
      go_wp2_with fail
      go_loopw [10] (fun i wr => ∃ j q : Nat, j ≤ sp ∧ i = .int .i64 j ∧ wr = w9.drewN q) (fun i _ => sp - (intOf i).toNat)
      case atStart => exact ⟨0, 0, by omega, rfl, rfl⟩
      case round =>
        obtain ⟨j, q, hj, rfl, hwq⟩ := hrel
        have ha5 := HA.out.drewN q
        have hc5 := HC.out.drewN q
        rw [← hwq] at ha5 hc5
        have HWQ := Lib.hid hwq
        have HA5 := Lib.hid ha5
        have HC5 := Lib.hid hc5
        clear hwq
        by_cases hjl : j < sp
        · obtain ⟨x, pc, bb, rr, hfa, hfc⟩ := HBO.out j (by omega)
          obtain ⟨f0, f1, f2, f3, f4, f5, f6, f7, f8, f9⟩ := cells10 ha5 hfa
          obtain ⟨d0, d1, d2, d3, d4, d5, d6, d7, d8, d9⟩ := cells10 hc5 hfc
          clear ha5 hc5 hfa hfc
          have hn1 := nil_fn
          have hn2 := nil_fr
          have hat := fun w h => at_flip A B k (sp : Int) j arr w h (by omega)
          have HAT := Lib.hid hat
          have hat' := fun w h => at_flip C D k (sp : Int) j arr' w h (by omega)
          have HAT' := Lib.hid hat'
          clear hat hat'
          go_wp2_with fail
          refine (sp_any A B _ _ _ _ HA5.out).mono ?_; rintro e w7 ⟨rfl, rfl⟩
          go_wp2_with fail
          go_quiet ((first | (go_at_call 15; refine Calls.quiet_of_same (HAT.out _ ?_); exact HA5.out.drewN _) | (go_at_call 15; refine Calls.quiet_of_same (HAT'.out _ ?_); exact HC5.out.drewN _)))
          go_wp2
          go_roundw
          case rel => exact ⟨j + 1, q + nq, by omega, by go_num, by rw [HWQ.out, World.drewN_drewN]⟩
          case measure => simp [intOf]; omega
        · have hjj : j = sp := by omega
          subst hjj
          clear ha5 hc5
          go_wp2_with fail
          refine (sp_any A B _ _ _ _ HA5.out).mono ?_; rintro e w7 ⟨rfl, rfl⟩
          go_wp2
          go_ret
          exact ⟨rfl, by rw [HWQ.out]; exact HB1.out.trans ((below_drewN HBR.out q).mono hsz)⟩

end Go.Proofs.Ytgdobbebabjafaa.fnFixedFreeAllInvisibleInScript
