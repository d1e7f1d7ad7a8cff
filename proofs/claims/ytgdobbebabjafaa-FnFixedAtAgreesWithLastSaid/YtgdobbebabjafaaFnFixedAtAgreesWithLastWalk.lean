/- The walk of FnFixedAtAgreesWithLast. -/
import Derived.Test.YtgdobbebabjafaaFill120
namespace Go.Proofs.Ytgdobbebabjafaa.fnFixedAtAgreesWithLast
open Go.RowKit
set_option linter.unusedVariables false

set_option maxHeartbeats 400000 in
theorem bytes_no (a0 : Option Addr) (len0 cap0 : Nat) (a1 : Int) (w : World) (h : 1048576 < len0) (hm : len0 ≤ maxLen) :
    Calls Try.prog 18 #[.slice a0 len0 cap0, .int .i64 a1] w fun e w' => e = .returned (.bool false) ∧ w = w' := by
  unfold maxLen at hm
  go_enter Try.func18, Try.ntmps18
  go_wp2
  go_ret
  exact ⟨rfl, rfl⟩
set_option maxHeartbeats 400000 in
theorem bytes_yes (a0 : Option Addr) (len0 cap0 : Nat) (a1 : Int) (w : World) (h : len0 ≤ 1048576) :
    Calls Try.prog 18 #[.slice a0 len0 cap0, .int .i64 a1] w fun e w' => e = .returned (.bool true) ∧ w = w' := by
  go_enter Try.func18, Try.ntmps18
  go_wp2
  go_ret
  exact ⟨rfl, rfl⟩

set_option maxHeartbeats 1000000 in
set_option maxRecDepth 100000 in
theorem walk (a0 : Option Addr) (len0 cap0 : Nat) (z0 : List Int) (a1 : Int) (w : World) (w0 : IsRow .i64 w a0 len0 cap0 z0) (w1 : (Lit.int .i64 a1).wf = true) :
    Calls Try.prog 4 #[.slice a0 len0 cap0, .int .i64 a1] w fun e w' => e = .returned (.bool true) ∧ Below w.heap.size w w' := by
  have hl1 := (InRow.len_le w0).1
  have hl2 := (InRow.len_le w0).2
  by_cases hb : 1048576 < len0
  · clear w0
    go_enter Try.func4, Try.ntmps4
    go_wp2_with fail
    refine (bytes_no a0 len0 cap0 a1 _ hb hl2).mono ?_; rintro e w1 ⟨rfl, rfl⟩
    go_wp2
    go_ret
    exact ⟨rfl, Below.refl _ _⟩
  have hb' : len0 ≤ 1048576 := by omega
  by_cases hc : 65536 < len0
  · clear w0 hl1 hl2 hb
    go_enter Try.func4, Try.ntmps4
    go_wp2_with fail
    refine (bytes_yes a0 len0 cap0 a1 _ hb').mono ?_; rintro e w1 ⟨rfl, rfl⟩
    go_wp2
    go_ret
    exact ⟨rfl, Below.refl _ _⟩
  by_cases hs1 : a1 < 0
  · clear w0 hl1 hl2 hb
    go_enter Try.func4, Try.ntmps4
    go_wp2_with fail
    refine (bytes_yes a0 len0 cap0 a1 _ hb').mono ?_; rintro e w1 ⟨rfl, rfl⟩
    go_wp2
    go_ret
    exact ⟨rfl, Below.refl _ _⟩
  by_cases hs2 : 65536 < a1
  · clear w0 hl1 hl2 hb
    go_enter Try.func4, Try.ntmps4
    go_wp2_with fail
    refine (bytes_yes a0 len0 cap0 a1 _ hb').mono ?_; rintro e w1 ⟨rfl, rfl⟩
    go_wp2
    go_ret
    exact ⟨rfl, Below.refl _ _⟩
  obtain ⟨sl, rfl⟩ := Int.eq_ofNat_of_zero_le (show 0 ≤ a1 by omega)
  have hsl : sl ≤ 65536 := by omega
  clear hs1 hs2 w1
  obtain ⟨l, hl⟩ : ∃ l, l = z0.take len0 := ⟨_, rfl⟩
  have hlen : l.length = len0 := by rw [hl]; simp; omega
  have hclone := cloneInts_any a0 len0 cap0 z0
  rw [← hl] at hclone
  have HCL := Lib.hid hclone
  have W0 := Lib.hid w0
  have HLEN := Lib.hid hlen
  clear hclone hl hl1 hl2 hb w0 hlen
  have hc' : len0 ≤ 65536 := by omega
  clear hc
  go_enter Try.func4, Try.ntmps4
  go_wp2_with fail
  refine (bytes_yes a0 len0 cap0 sl _ hb').mono ?_; rintro e w1 ⟨rfl, rfl⟩
  go_wp2_with fail
  refine (HCL.out _ W0.out (by omega)).mono ?_; rintro e w1 ⟨v, rfl, hown, hb1⟩
  obtain ⟨p, hv⟩ := own_form hown
  rw [HLEN.out] at hv
  subst hv
  have HOWN := Lib.hid hown
  have HB1 := Lib.hid hb1
  have hsz := hb1.size
  clear hown hb1
  go_wp2_with fail
  refine (fill_sum _ _ l len0 sl HLEN.out (by omega) _ HOWN.out).mono ?_; rintro e w2 ⟨A, B, arr, rfl, hA, hB, hst, hfl, hb2⟩
  rw [HLEN.out] at hst hfl
  have HST := Lib.hid hst
  have HFL := Lib.hid hfl
  have HOWN2 := Lib.hid (HOWN.out.keep (Nat.le_refl _) hb2)
  have HB2 := Lib.hid (HB1.out.trans (hb2.mono hsz))
  have hA' : w.heap.size ≤ A := by omega
  have hB' : w.heap.size ≤ B := by omega
  have hsz2 := hb2.size
  clear hst hfl hb2
  go_wp2_with fail
  go_loopw [7] (fun i wr => ∃ k : Nat, k ≤ len0 ∧ i = .int .i64 k ∧ wr = w2) (fun i _ => len0 - (intOf i).toNat)
  case atStart => exact ⟨0, by omega, rfl, rfl⟩
  case round =>
    obtain ⟨k, hk, rfl, rfl⟩ := hrel
    by_cases hkl : k < len0
    · go_wp2_with fail
      refine (at_any A B _ _ k arr _ HST.out (by omega)).mono ?_; rintro e w3 ⟨rfl, rfl⟩
      go_wp2_with fail
      refine (sp_any A B _ _ arr _ HST.out).mono ?_; rintro e w3 ⟨rfl, rfl⟩
      go_wp2
      go_roundw
      case rel => exact ⟨k + 1, by omega, by go_num, by first | rfl | trivial⟩
      case measure => simp [intOf]; omega
    · have hkk : k = len0 := by omega
      subst hkk
      go_wp2_with fail
      refine (isFull_is A B _ _ arr _ ((sl : Int) == 0) (by rw [Bool.eq_iff_iff, beq_iff_eq, beq_iff_eq]; omega) HST.out).mono ?_; rintro e w3 ⟨rfl, q, rfl⟩
      cases k with
      | zero =>
        go_wp2_with fail
        refine (last_nil A B _ arr _ (HST.out.drewN q)).mono ?_; rintro e w3 ⟨rfl, rfl⟩
        go_wp2_with fail
        refine (isEmpty_is A B _ _ arr _ true rfl (HST.out.drewN q)).mono ?_; rintro e w3 ⟨rfl, rfl⟩
        go_wp2
        go_ret
        exact ⟨rfl, below_drewN HB2.out _⟩
      | succ m =>
        have hz : (((m : Int) + 1) == 0) = false := by simp; omega
        have hps := ptr_same
        go_wp2_with fail
        refine (at_any A B _ _ m arr _ (HST.out.drewN q) (by omega)).mono ?_; rintro e w3 ⟨rfl, rfl⟩
        go_wp2_with fail
        refine (last_some A B _ m arr _ (HST.out.drewN q) (by omega)).mono ?_; rintro e w3 ⟨rfl, q2, rfl⟩
        go_wp2_with fail
        refine (isEmpty_is A B _ _ arr _ false hz (HST.out.drewN _)).mono ?_; rintro e w3 ⟨rfl, rfl⟩
        go_wp2
        go_ret
        exact ⟨rfl, below_drewN HB2.out _⟩

end Go.Proofs.Ytgdobbebabjafaa.fnFixedAtAgreesWithLast
