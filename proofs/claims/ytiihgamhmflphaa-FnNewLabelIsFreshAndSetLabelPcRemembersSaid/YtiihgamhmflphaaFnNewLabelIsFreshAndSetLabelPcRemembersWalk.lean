/- The walk of FnNewLabelIsFreshAndSetLabelPcRemembers. -/
import Derived.Test.YtiihgamhmflphaaCtxKit116
namespace Go.Proofs.Ytiihgamhmflphaa.fnNewLabelIsFreshAndSetLabelPcRemembers
open Go.RowKit Go.Maps
set_option linter.unusedVariables false

theorem bytes_any (a0 : Int) (a : Option Addr) (n cap : Nat) (w : World) (hm : n ≤ maxLen) :
    Calls Try.prog 10 #[.int .i64 a0, .slice a n cap] w (Bts (n ≤ 1048576) w) := by
  unfold maxLen at hm
  by_cases h : 1048576 < n
  · go_enter Try.func10, Try.ntmps10
    go_wp2
    go_ret
    exact ⟨false, rfl, by first | rfl | trivial, by simp⟩
  · go_enter Try.func10, Try.ntmps10
    go_wp2
    go_ret
    exact ⟨true, rfl, by first | rfl | trivial, fun _ => by omega⟩

/-- The labels' row. -/
def Lab (w : World) (L n k : Nat) (a0 : Int) : Prop := ∃ arr, w.heap[L]? = some (.cells arr 3 (0, 0)) ∧ arr.size = n ∧ ∀ i, i < k → arr[i]? = some (.int .i64 (wrap64 (a0 + (i : Int))))
theorem Lab.keep {w w' : World} {L n k : Nat} {a0 : Int} (h : Lab w L n k a0) (hk : w'.heap[L]? = w.heap[L]?) : Lab w' L n k a0 := by
  obtain ⟨arr, h1, h2⟩ := h
  exact ⟨arr, hk.trans h1, h2⟩
theorem Lab.lt {w : World} {L n k : Nat} {a0 : Int} (h : Lab w L n k a0) : L < w.heap.size := by
  obtain ⟨arr, h1, h2⟩ := h
  exact lt_of_block h1
theorem Lab.neF {w : World} {L n k F M : Nat} {a0 lid : Int} (h : Lab w L n k a0) (hf : Fc w F M lid) : L ≠ F := by
  obtain ⟨arr, h1, h2⟩ := h
  obtain ⟨arr', h3, _⟩ := hf
  rintro rfl
  rw [h1] at h3
  cases h3
theorem Lab.neM {w : World} {L n k M m : Nat} {a0 : Int} {f : Int → Int} (h : Lab w L n k a0) (hm : Mp w M m f) : L ≠ M := by
  obtain ⟨arr, h1, h2⟩ := h
  obtain ⟨D, ⟨es, c, h3, _⟩, _⟩ := hm
  rintro rfl
  rw [h1] at h3
  cases h3
theorem Lab.set {w : World} {L n k : Nat} {a0 : Int} (h : Lab w L n k a0) (hk : k < n) : Lab (w.setCell ⟨L, k, none⟩ (.int .i64 (wrap64 (a0 + (k : Int))))) L n (k + 1) a0 := by
  obtain ⟨arr, h1, h2, h3⟩ := h
  refine ⟨_, heap_setCell_same _ _ _ _ _ _ h1, by simpa using h2, fun i hi => ?_⟩
  by_cases e : i = k
  · subst e
    rw [Array.getElem?_setIfInBounds_self_of_lt (by omega)]
  · rw [Array.getElem?_setIfInBounds_ne (fun e' => e e'.symm)]
    exact h3 i (by omega)
theorem Lab.cell {w : World} {L n k : Nat} {a0 : Int} (h : Lab w L n k a0) {i : Nat} (hi : i < k) : w.cell? ⟨L, i, none⟩ = some (.int .i64 (wrap64 (a0 + (i : Int)))) := by
  obtain ⟨arr, h1, h2, h3⟩ := h
  rw [cell_of_row _ _ _ _ _ _ h1]
  exact h3 i hi
theorem Lab.room {w : World} {L n k : Nat} {a0 : Int} (h : Lab w L n k a0) {i : Nat} (hi : i < n) : (∃ v, w.cell? ⟨L, i, none⟩ = some v) ∧ w.frozen? ⟨L, i, none⟩ = false := by
  obtain ⟨arr, h1, h2, h3⟩ := h
  refine ⟨⟨_, (cell_of_row _ _ _ _ _ _ h1).trans (Array.getElem?_eq_getElem (by omega))⟩, frozen_of_row _ _ _ _ _ h1⟩

/-- What the map answers after k labels. -/
def Rem (f : Int → Int) (a0 : Int) (zs : List Int) (k : Nat) : Prop := (∀ i, i < k → f (wrap64 (a0 + (i : Int))) = zs.getD i 0) ∧ ∀ q, (∀ i, i < k → q ≠ wrap64 (a0 + (i : Int))) → f q = 0
theorem Rem.fresh {f : Int → Int} {a0 : Int} {zs : List Int} {k : Nat} (h : Rem f a0 zs k) (hk : k ≤ 1048576) : f (wrap64 (a0 + (k : Int))) = 0 :=
  h.2 _ fun i hi e => by have := wrap_inj hk (by omega) e; omega
theorem Rem.step {f : Int → Int} {a0 : Int} {zs : List Int} {k : Nat} (h : Rem f a0 zs k) (hk : k ≤ 1048576) : Rem (upd f (wrap64 (a0 + (k : Int))) (zs.getD k 0)) a0 zs (k + 1) := by
  refine ⟨fun i hi => ?_, fun q hq => ?_⟩
  · unfold upd
    by_cases e : i = k
    · subst e; rw [if_pos rfl]
    · rw [if_neg (fun h' => e (wrap_inj (by omega) hk h'))]
      exact h.1 i (by omega)
  · unfold upd
    rw [if_neg (hq k (by omega))]
    exact h.2 q fun i hi => hq i (by omega)

set_option maxHeartbeats 2000000 in
theorem walk (a0 : Int) (a1 : Option Addr) (len1 cap1 : Nat) (z1 : List Int) (w : World) (w0 : (Lit.int .i64 a0).wf = true) (w1 : IsRow .i64 w a1 len1 cap1 z1) :
    Calls Try.prog 4 #[.int .i64 a0, .slice a1 len1 cap1] w fun e w' => e = .returned (.bool true) ∧ Below w.heap.size w w' := by
  have HBY := Lib.hid (bytes_any a0 a1 len1 cap1 w (InRow.len_le w1).2)
  have W1 := Lib.hid w1
  have HZ := Lib.hid (wrap_zero w0)
  clear w0 w1
  go_enter Try.func4, Try.ntmps4
  go_wp2_with fail
  refine HBY.out.mono ?_; rintro e u0 ⟨b, rfl, rfl, hbt⟩
  cases b with
  | false =>
    go_wp2
    go_ret
    exact ⟨rfl, Below.refl _ _⟩
  | true =>
  have hn := hbt rfl
  clear hbt HBY
  by_cases hc : 65536 < len1
  · go_wp2
    go_ret
    exact ⟨rfl, Below.refl _ _⟩
  go_wp2_with fail
  refine (copy_any a1 len1 cap1 z1 _ W1.out (by omega)).mono ?_; rintro e u2 ⟨p, rfl, hcp, hb2⟩
  have HCP := Lib.hid hcp
  have HB2 := Lib.hid hb2
  clear hcp hb2
  go_wp2_with fail
  refine (new_any a0 _).mono ?_; rintro e u3 ⟨F, M, rfl, hF, hM, hfc, hmp, hb3⟩
  have hfc0 := hfc
  rw [← HZ.out] at hfc0
  have hmk := makeI len1 (by omega)
  have hsz := size_madeCells (Value.cells (.int .i64 0)) len1
  generalize madeCells (Value.cells (.int .i64 0)) len1 = mc at *
  have hlt := hfc0.lt
  have hltM := hmp.lt
  have HL0 := Lib.hid (⟨mc, heap_alloc_new _ _, by simpa using hsz, fun i hi => absurd hi (by omega)⟩ : Lab (u3.alloc (.cells mc 3)) u3.heap.size len1 0 a0)
  have HFC := Lib.hid (hfc0.keep (Below.heap_alloc u3 (.cells mc 3) _ hlt))
  have HMP := Lib.hid (hmp.alloc (.cells mc 3))
  have HB3 := Lib.hid (hb3.alloc hb3.size (.cells mc 3))
  have hbs := hb3.size
  clear hfc hfc0 hmp hb3 hsz hlt hltM
  go_wp2_with fail
  clear hmk
  obtain ⟨L, hLL⟩ : ∃ L, L = u3.heap.size := ⟨_, rfl⟩
  rw [← hLL] at HL0
  rw [← hLL]
  have hLB : u2.heap.size ≤ L := by omega
  clear hLL
  go_loopw [8, 9] (fun i _ wr => ∃ (k : Nat) (f : Int → Int), k ≤ len1 ∧ i = .int .i64 k ∧ Fc wr F M (wrap64 (a0 + (k : Int))) ∧ Mp wr M k f ∧ Rem f a0 z1 k ∧ Lab wr L len1 k a0 ∧ Below u2.heap.size u2 wr) (fun i _ _ => len1 - (intOf i).toNat)
  case atStart => exact ⟨0, _, by omega, rfl, HFC.out, HMP.out, ⟨fun i hi => absurd hi (by omega), fun q _ => rfl⟩, HL0.out, HB3.out⟩
  case round =>
    obtain ⟨k, f, hk, rfl, hfc, hmp, hrem, hlab, hb⟩ := hrel
    have HFC := Lib.hid hfc
    have HMP := Lib.hid hmp
    have HREM := Lib.hid hrem
    have HLAB := Lib.hid hlab
    have HB := Lib.hid hb
    clear hfc hmp hrem hlab hb
    by_cases hkl : k < len1
    · obtain ⟨g, ep, hg0, hg, hcell, hwf⟩ := HCP.out k hkl
      subst ep
      have hfr := HREM.out.fresh (by omega)
      have hst := HREM.out.step (by omega)
      have HFR := Lib.hid hfr
      have HST := Lib.hid hst
      have hpc : ∀ w', Below u2.heap.size u2 w' → w'.cell? ⟨g, k, none⟩ = some (.int .i64 (z1.getD k 0)) := fun w' hb => (hb.cell (p := ⟨g, k, none⟩) hg).trans hcell
      generalize z1.getD k 0 = pc at *
      have HPC := Lib.hid hpc
      clear hcell hfr hst hpc
      have b1 : (0 : Int) ≤ (k : Int) := by omega
      have b2 : (k : Int) < (len1 : Int) := by omega
      go_wp2_with fail
      refine (newLabel_any F M _ _ HFC.out (wrap64_wf _)).mono ?_; rintro e u4 ⟨rfl, hfc4, hk4, hb4⟩
      rw [wrap_succ] at hfc4
      have hmp4 := HMP.out.keep (hk4 M (fun e => HFC.out.ne HMP.out e.symm))
      have hlab4 := HLAB.out.keep (hk4 L (HLAB.out.neF HFC.out))
      have hb4' := HB.out.trans (hb4.mono hF)
      have HFC4 := Lib.hid hfc4
      have HMP4 := Lib.hid hmp4
      have HLAB4 := Lib.hid hlab4
      have HB4 := Lib.hid hb4'
      clear hfc4 hmp4 hlab4 hb4 hb4' hk4
      have d4 := HPC.out u4 HB4.out
      have wx : (Lit.int .i64 (wrap64 (a0 + (k : Int)))).wf = true := wrap64_wf _
      generalize hx : wrap64 (a0 + (k : Int)) = x at *
      have HX := Lib.hid hx
      clear hx
      go_wp2_with fail
      refine (getPc_any F M k _ x f _ HFC4.out HMP4.out wx).mono ?_; rintro e u5 ⟨rfl, rfl⟩
      rw [HFR.out]
      go_wp2_with fail
      refine (setPc_any F M k _ x pc f _ HFC4.out HMP4.out (by omega) wx hwf).mono ?_; rintro e u6 ⟨rfl, hfc6, hmp6, hk6, hb6⟩
      have hlab6 := HLAB4.out.keep (hk6 L HLAB4.out.lt (HLAB4.out.neM HMP4.out))
      have hb6' := HB4.out.trans (hb6.mono hM)
      obtain ⟨⟨v0, e3⟩, e4⟩ := hlab6.room hkl
      have HFC6 := Lib.hid hfc6
      have HMP6 := Lib.hid hmp6
      have HLAB6 := Lib.hid hlab6
      have HB6 := Lib.hid hb6'
      clear hfc6 hmp6 hlab6 hb6 hb6' hk6
      go_wp2
      go_roundw
      case rel =>
        have hls := HLAB6.out.set hkl
        rw [HX.out] at hls
        exact ⟨k + 1, _, by omega, by go_num, HFC6.out.keep (heap_setCell_other _ ⟨L, k, none⟩ _ _ (fun e => HLAB6.out.neF HFC6.out e.symm)), HMP6.out.keep (heap_setCell_other _ ⟨L, k, none⟩ _ _ (fun e => HLAB6.out.neM HMP6.out e.symm)), HST.out, hls, HB6.out.setCell (p := ⟨L, k, none⟩) hLB _⟩
      case measure => simp [intOf]; omega
    · have hkk : k = len1 := by omega
      subst hkk
      go_wp2_with fail
      go_loopw [10] (fun i wr => ∃ m : Nat, m ≤ k ∧ i = .int .i64 m ∧ Fc wr F M (wrap64 (a0 + (k : Int))) ∧ Mp wr M k f ∧ Lab wr L k k a0 ∧ Below u2.heap.size u2 wr) (fun i _ => k - (intOf i).toNat)
      case atStart => exact ⟨0, by omega, rfl, HFC.out, HMP.out, HLAB.out, HB.out⟩
      case round =>
        obtain ⟨m, hm, rfl, hfc, hmp, hlab, hb⟩ := hrel
        have HFC := Lib.hid hfc
        have HMP := Lib.hid hmp
        have HLAB := Lib.hid hlab
        have HB := Lib.hid hb
        clear hfc hmp hlab hb
        by_cases hml : m < k
        · obtain ⟨g, ep, hg0, hg, hcell, hwf⟩ := HCP.out m hml
          subst ep
          have d1 : wr.cell? ⟨g, m, none⟩ = some (.int .i64 (z1.getD m 0)) := (HB.out.cell (p := ⟨g, m, none⟩) hg).trans hcell
          have d2 := HLAB.out.cell hml
          have hr1 := HREM.out.1 m hml
          rw [← hr1] at d1
          have wx : (Lit.int .i64 (wrap64 (a0 + (m : Int)))).wf = true := wrap64_wf _
          generalize wrap64 (a0 + (m : Int)) = x at *
          have hat := fun w h1 h2 => getPc_any F M k (wrap64 (a0 + (k : Int))) x f w h1 h2 wx
          have HAT := Lib.hid hat
          clear hat hr1 hcell hwf
          generalize f x = y at *
          have b1 : (0 : Int) ≤ (m : Int) := by omega
          have b2 : (m : Int) < (k : Int) := by omega
          go_wp2
          go_quiet ((go_at_call 12; refine Calls.quiet_of_same (HAT.out _ ?_ ?_); exact HFC.out.drewN _; exact HMP.out.drewN _))
          go_wp2
          go_roundw
          case rel => exact ⟨m + 1, by omega, by go_num, HFC.out.drewN _, HMP.out.drewN _, HLAB.out.keep rfl, below_drewN HB.out _⟩
          case measure => simp [intOf]; omega
        · have hmk : m = k := by omega
          subst hmk
          have hfr := HREM.out.fresh (by omega)
          have HFR := Lib.hid hfr
          clear hfr
          have wx : (Lit.int .i64 (wrap64 (a0 + (m : Int)))).wf = true := wrap64_wf _
          go_wp2_with fail
          refine (newLabel_any F M _ _ HFC.out wx).mono ?_; rintro e u4 ⟨rfl, hfc4, hk4, hb4⟩
          have hmp4 := HMP.out.keep (hk4 M (fun e => HFC.out.ne HMP.out e.symm))
          have HFC4 := Lib.hid hfc4
          have HMP4 := Lib.hid hmp4
          have HB4 := Lib.hid (HB.out.trans (hb4.mono hF))
          clear hfc4 hmp4 hb4 hk4
          go_wp2_with fail
          refine (getPc_any F M m _ _ f _ HFC4.out HMP4.out wx).mono ?_; rintro e u5 ⟨rfl, rfl⟩
          rw [HFR.out]
          go_wp2
          go_ret
          exact ⟨by first | rfl | simp, HB2.out.trans (HB4.out.mono HB2.out.size)⟩

end Go.Proofs.Ytiihgamhmflphaa.fnNewLabelIsFreshAndSetLabelPcRemembers
