/- The contract of codeStore.Add. -/
import Derived.Test.YtnpljmcmpeaafaaCode106
namespace Go.Proofs.Ytnpljmcmpeaafaa
open Go.RowKit
set_option linter.unusedVariables false

set_option maxHeartbeats 1000000 in
theorem add_set (S base : Nat) (cs ls : List Int) (pc : Nat) (ca : Option Addr) (cc : Nat) (la : Option Addr) (lc : Nat) (inst line : Int) (w : World)
    (h : Cs w S base cs ls pc ca cc la lc) (hpc : pc < cs.length) (hlen : ls.length = cs.length) (hn : cs.length ≤ 131072) :
    Calls Try.prog 15 #[.pointer (some ⟨S, 0, none⟩), .int .u32 inst, .int .i64 line] w fun e w' => e = .returned (.tuple #[]) ∧
      Cs w' S base (cs.set pc inst) (ls.set pc line) (pc + 1) ca cc la lc ∧ Below base w w' := by
  have h0 := h.c0
  have h1 := h.c1
  have h2 := h.c2
  have H := Lib.hid h
  obtain ⟨g, cur, rfl, hg, hgc, hgi, hgl, _, _⟩ := row_cell h.hc hpc
  obtain ⟨k, cur', rfl, hk, hkc, hki, hkl, _, _⟩ := row_cell h.hl (show pc < ls.length by omega)
  rw [hlen] at h1
  have f0 : ∀ o, w.frozen? ⟨S, o, none⟩ = false := fun o => frozen_of_row _ _ _ _ _ H.out.hS
  have f1 : ∀ o, w.frozen? ⟨g, o, none⟩ = false := fun o => frozen_of_row _ _ _ _ _ hgc
  have f2 : ∀ o, w.frozen? ⟨k, o, none⟩ = false := fun o => frozen_of_row _ _ _ _ _ hkc
  have c3 : w.cell? ⟨g, pc, none⟩ = some (.int .u32 (cs.getD pc 0)) := (cell_of_row _ _ _ _ _ _ hgc).trans hgi
  have c4 : w.cell? ⟨k, pc, none⟩ = some (.int .i64 (ls.getD pc 0)) := (cell_of_row _ _ _ _ _ _ hkc).trans hki
  have n1 : g ≠ S := type_ne hgc H.out.hS (by decide)
  have n2 : k ≠ S := type_ne hkc H.out.hS (by decide)
  have n3 : g ≠ k := type_ne hgc hkc (by decide)
  have n1' := n1.symm
  have n2' := n2.symm
  have n3' := n3.symm
  have HBG := Lib.hid hg
  have HBK := Lib.hid hk
  clear h hgc hgi hkc hki hg hk
  generalize hN : cs.length = n at *
  generalize cs.getD pc 0 = u0 at *
  generalize ls.getD pc 0 = u1 at *
  have b1 : (0 : Int) ≤ (pc : Int) := by omega
  have b2 : (pc : Int) < (n : Int) := by omega
  have b3 : ¬ ((n : Int) ≤ 0) := by omega
  have b4 : ((pc : Int) == (n : Int)) = false := by simp; omega
  have b5 : ¬ ((pc : Int) = (n : Int)) := by omega
  go_enter Try.func15, Try.ntmps15
  go_wp2
  go_region
  go_wp2
  go_region
  go_wp2
  go_end0
  have A := ((H.out.setC pc inst).setL pc line).setPc (pc + 1)
  rw [Int.natCast_add] at A
  have hb := H.out.hb
  exact ⟨rfl, (A.drewN 2), (((Below.refl base w).setCell (p := ⟨g, pc, none⟩) HBG.out _).setCell (p := ⟨k, pc, none⟩) HBK.out _ |>.setCell (p := ⟨S, 2, none⟩) hb _).drew.drew⟩

end Go.Proofs.Ytnpljmcmpeaafaa
