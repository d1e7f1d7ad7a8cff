/- ResolveForwardGoto where nothing is left to resolve; rows that the law itself fills. -/
import Derived.Test.YtiihgamhmflphaaFmtFwdKit116
namespace Go.Proofs.YtiihgamhmflphaaFmt
open Go.RowKit Go.Maps
set_option linter.unusedVariables false

theorem infoB : (Tryf.prog.info? 4).map (fun i => (i.zero, i.size, i.bytes)) = some (some (.bool false), 1, 1) := by kernel_rfl
theorem makeB (n : Nat) (hn : n ≤ 1048576) (w : World) : (Instr.makeSlice 36 (.int .i64 (n : Int)) (.int .i64 (n : Int))).run Tryf.prog w = .ok (.slice (some ⟨w.heap.size, 0, none⟩) n n) (w.alloc (.cells (madeCells (Value.cells (.bool false)) n) 4)) := by
  obtain ⟨i0, hi, hz0, hz1, hz2⟩ := info_parts infoB
  have h := run_make (P := Tryf.prog) w 36 4 i0 (.bool false) Tryf.underlying36 hi hz0 .i64 .i64 n n (by omega) (by omega) (by rw [hz2]; omega) (by omega)
  rw [hz1, Int.toNat_natCast, Nat.mul_one] at h
  exact h

/-- A row of n cells in block G whose first k are f's. -/
def RowV (T : TypeId) (f : Nat → Value) (w : World) (G n k : Nat) : Prop := ∃ arr, w.heap[G]? = some (Obj.cells arr T (0, 0)) ∧ arr.size = n ∧ ∀ i, i < k → arr[i]? = some (f i)
theorem RowV.keep {T : TypeId} {f : Nat → Value} {w w' : World} {G n k : Nat} (h : RowV T f w G n k) (hk : w'.heap[G]? = w.heap[G]?) : RowV T f w' G n k := by
  obtain ⟨arr, h1, h2⟩ := h
  exact ⟨arr, hk.trans h1, h2⟩
theorem RowV.lt {T : TypeId} {f : Nat → Value} {w : World} {G n k : Nat} (h : RowV T f w G n k) : G < w.heap.size := by
  obtain ⟨arr, h1, h2⟩ := h
  exact lt_of_block h1
theorem RowV.set {T : TypeId} {f : Nat → Value} {w : World} {G n k : Nat} (h : RowV T f w G n k) (hk : k < n) {v : Value} (hv : v = f k) : RowV T f (w.setCell ⟨G, k, none⟩ v) G n (k + 1) := by
  obtain ⟨arr, h1, h2, h3⟩ := h
  refine ⟨_, heap_setCell_same _ _ _ _ _ _ h1, by simpa using h2, fun i hi => ?_⟩
  by_cases e : i = k
  · subst e
    rw [Array.getElem?_setIfInBounds_self_of_lt (by omega), hv]
  · rw [Array.getElem?_setIfInBounds_ne (fun e' => e e'.symm)]
    exact h3 i (by omega)
theorem RowV.cell {T : TypeId} {f : Nat → Value} {w : World} {G n k : Nat} (h : RowV T f w G n k) {i : Nat} (hi : i < k) : w.cell? ⟨G, i, none⟩ = some (f i) := by
  obtain ⟨arr, h1, h2, h3⟩ := h
  rw [cell_of_row _ _ _ _ _ _ h1]
  exact h3 i hi
theorem RowV.room {T : TypeId} {f : Nat → Value} {w : World} {G n k : Nat} (h : RowV T f w G n k) {i : Nat} (hi : i < n) : (∃ v, w.cell? ⟨G, i, none⟩ = some v) ∧ w.frozen? ⟨G, i, none⟩ = false := by
  obtain ⟨arr, h1, h2, h3⟩ := h
  exact ⟨⟨_, (cell_of_row _ _ _ _ _ _ h1).trans (Array.getElem?_eq_getElem (by omega))⟩, frozen_of_row _ _ _ _ _ h1⟩

section
variable (F C Bk U : Nat) (p : Option Addr) (h : Nat → Option Nat) (base n fs : Nat) (cs : List Int) (ns : Nat → ByteArray) (ps nu : Nat → Int) (T : Nat) (tid tN : Int) (tn : ByteArray)

set_option maxHeartbeats 2000000 in
set_option maxRecDepth 100000 in
theorem resolveN0 (w : World) (s : Sx w F C Bk U p h base n (fs : Int) cs ns ps nu) (td : Td w T tid tn tN) (hfs : fs ≤ n) (hn : n ≤ 1048570) (hpre : ∀ i, fs ≤ i → (h i).isSome = true → ns i ≠ tn) :
    Calls Tryf.prog 33 #[.pointer (some ⟨F, 0, none⟩), .pointer (some ⟨T, 0, none⟩)] w fun e w' => e = .returned (.tuple #[]) ∧ ∃ q, w' = w.drewN q := by
  have f4 := s.f4
  have b7 := s.b7
  have S := Lib.hid s
  have TD := Lib.hid td
  have HP := Lib.hid hpre
  clear s td hpre
  go_enter Tryf.func33, Tryf.ntmps33
  go_wp2_with fail
  go_loopw [4, 5, 6] (fun i _ _ wr => ∃ d q : Nat, fs + d ≤ n + 1 ∧ i = .int .i64 ((fs + d : Nat) : Int) ∧ wr = w.drewN q) (fun i _ _ _ => n + 1 - (intOf i).toNat)
  case atStart => exact ⟨0, 0, by omega, rfl, rfl⟩
  case round =>
    obtain ⟨d, q, hd, rfl, hwq⟩ := hrel
    have HWQ := Lib.hid hwq
    have hs := S.out.drewN q
    have htd := TD.out.keep (w' := w.drewN q) rfl
    rw [← hwq] at hs htd
    clear hwq
    have f9 := hs.f9
    have f10 := hs.f10
    have hu := hs.hU
    by_cases hle : fs + d ≤ n
    · have b1 : (((fs + d : Nat) : Nat) : Int) ≤ (n : Int) := by omega
      cases hq : h (fs + d) with
      | none =>
        obtain ⟨v, hrun⟩ := hu.run_none hq (by omega)
        clear hs htd hu hq
        generalize hI : fs + d = I at *
        have HI := Lib.hid hI
        clear hI
        go_wp2
        go_roundw
        case rel => exact ⟨d + 1, q, by have := HI.out; omega, by have := HI.out; rw [show fs + (d + 1) = I + 1 by omega]; go_num, HWQ.out⟩
        case measure => simp [intOf]; omega
      | some g =>
        have hrun := hu.run_some hq (by omega)
        have gd := (hs.hG _ _ hq).2
        have g1 := gd.c1
        have t1 := htd.c1
        have hx1 := tl_ne (HP.out (fs + d) (by omega) (by rw [hq]; rfl))
        generalize ns (fs + d) = nm at *
        clear hs htd hu gd hq
        generalize hI : fs + d = I at *
        have HI := Lib.hid hI
        clear hI
        go_wp2_with fail
        go_quiet (fail)
        go_wp2
        go_roundw
        case rel => exact ⟨d + 1, q + nq, by have := HI.out; omega, by have := HI.out; rw [show fs + (d + 1) = I + 1 by omega]; go_num, by rw [HWQ.out, World.drewN_drewN]⟩
        case measure => simp [intOf]; omega
    · have b1 : ¬ ((((fs + d : Nat) : Nat) : Int) ≤ (n : Int)) := by omega
      clear hs htd hu
      go_wp2
      go_end0
      exact ⟨by first | rfl | trivial, q, HWQ.out⟩

theorem resolveN_any (w : World) (s : Sx w F C Bk U p h base n (fs : Int) cs ns ps nu) (td : Td w T tid tn tN) (hfs : fs ≤ n) (hn : n ≤ 1048570) (hpre : ∀ i, fs ≤ i → (h i).isSome = true → ns i ≠ tn) :
    Calls Tryf.prog 15 #[.pointer (some ⟨F, 0, none⟩), .pointer (some ⟨T, 0, none⟩)] w fun e w' => e = .returned (.tuple #[]) ∧ ∃ q, w' = w.drewN q := by
  have H := Lib.hid (resolveN0 F C Bk U p h base n fs cs ns ps nu T tid tN tn w s td hfs hn hpre)
  clear s td hpre
  go_enter Tryf.func15, Tryf.ntmps15
  go_wp2_with fail
  refine H.out.mono ?_; rintro e w1 ⟨rfl, q, rfl⟩
  go_wp2
  go_end0
  exact ⟨by first | rfl | trivial, q, rfl⟩
end

theorem isSome_resH {h : Nat → Option Nat} {ns : Nat → ByteArray} {tn : ByteArray} {fs d n i : Nat} (hh : ∀ i, (h i).isSome = decide (i < n)) (hd : fs + d = n + 1) : (resH h ns tn fs d i).isSome = (decide (i < n) && !(decide (fs ≤ i) && decide (ns i = tn))) := by
  unfold resH
  by_cases c : fs ≤ i ∧ i < fs + d ∧ ns i = tn
  · rw [if_pos c]
    simp [c.1, c.2.2]
  · rw [if_neg c, hh]
    by_cases hi : i < n
    · have : ¬ (fs ≤ i ∧ ns i = tn) := fun x => c ⟨x.1, by omega, x.2⟩
      by_cases h1 : fs ≤ i
      · have : ns i ≠ tn := fun x => this ⟨h1, x⟩
        simp [hi, h1, this]
      · simp [hi, h1]
    · simp [hi]

end Go.Proofs.YtiihgamhmflphaaFmt
