/- The contracts of codeStore's List, PosList, Last, Pop, of the setters and of the maker. -/
import Derived.Test.YtnpljmcmpeaafaaCodeOps106
namespace Go.Proofs.Ytnpljmcmpeaafaa
open Go.RowKit
set_option linter.unusedVariables false

theorem Rd.re {w : World} {k : IntKind} {a : Option Addr} {l : List Int} {m : Nat} (h : Rd (w.drewN m) k a l) (n : Nat) : Rd (w.drewN n) k a l := h

/-- A row is answered; the world is as it was but for draws. -/
def RowQ (w : World) (k : IntKind) (l : List Int) (e : Ending) (w' : World) : Prop := ∃ a c q, e = .returned (.slice a l.length c) ∧ Rd w k a l ∧ w' = w.drewN q

set_option maxHeartbeats 400000 in
theorem list_any (S base : Nat) (cs ls : List Int) (pc : Nat) (w : World) (h : Store w S base cs ls pc) (hpc : pc ≤ cs.length) (hn : cs.length ≤ 131072) :
    Calls Try.prog 19 #[.pointer (some ⟨S, 0, none⟩)] w (RowQ w .u32 (cs.take pc)) := by
  obtain ⟨ca, cc, la, lc, h⟩ := h
  have h0 := h.c0
  have h2 := h.c2
  have hr := (rd_row h.hc).take pc
  have HR := Lib.hid hr
  have hcap := row_cap h.hc
  unfold maxLen at hcap
  have hl : (cs.take pc).length = pc := by simp; omega
  have HL := Lib.hid hl
  clear h hr hl
  generalize cs.length = n at *
  have b1 : (0 : Int) ≤ (pc : Int) := by omega
  have b2 : (pc : Int) ≤ (cc : Int) := by omega
  go_enter Try.func19, Try.ntmps19
  go_wp2
  go_quiet (fail)
  go_wp2
  go_ret
  exact ⟨ca, cc, nq, by rw [HL.out]; rfl, HR.out, rfl⟩

set_option maxHeartbeats 400000 in
theorem posList_any (S base : Nat) (cs ls : List Int) (pc : Nat) (w : World) (h : Store w S base cs ls pc) (hpc : pc ≤ ls.length) (hn : ls.length ≤ 131072) :
    Calls Try.prog 20 #[.pointer (some ⟨S, 0, none⟩)] w (RowQ w .i64 (ls.take pc)) := by
  obtain ⟨ca, cc, la, lc, h⟩ := h
  have h0 := h.c1
  have h2 := h.c2
  have hr := (rd_row h.hl).take pc
  have HR := Lib.hid hr
  have hcap := row_cap h.hl
  unfold maxLen at hcap
  have hl : (ls.take pc).length = pc := by simp; omega
  have HL := Lib.hid hl
  clear h hr hl
  generalize ls.length = n at *
  have b1 : (0 : Int) ≤ (pc : Int) := by omega
  have b2 : (pc : Int) ≤ (lc : Int) := by omega
  go_enter Try.func20, Try.ntmps20
  go_wp2
  go_quiet (fail)
  go_wp2
  go_ret
  exact ⟨la, lc, nq, by rw [HL.out]; rfl, HR.out, rfl⟩

set_option maxHeartbeats 400000 in
theorem last_some (S base : Nat) (cs ls : List Int) (pc : Nat) (w : World) (h : Store w S base cs ls (pc + 1)) (hpc : pc < cs.length) (hn : cs.length ≤ 131072) :
    Calls Try.prog 21 #[.pointer (some ⟨S, 0, none⟩)] w fun e w' => e = .returned (.int .u32 (cs.getD pc 0)) ∧ ∃ q, w' = w.drewN q := by
  obtain ⟨ca, cc, la, lc, h⟩ := h
  have h0 := h.c0
  have h2 := h.c2
  obtain ⟨g, e, _, hc⟩ := rd_row h.hc pc hpc
  subst e
  clear h
  generalize cs.length = n at *
  generalize cs.getD pc 0 = u at *
  have b1 : (0 : Int) ≤ (pc : Int) := by omega
  have b2 : (pc : Int) < (n : Int) := by omega
  have b3 : (((pc + 1 : Nat) : Int) == 0) = false := by simp; omega
  go_enter Try.func21, Try.ntmps21
  have b4 : IntKind.i64.wrap ((pc : Int) + 1 - 1) = (pc : Int) := by rw [show (pc : Int) + 1 - 1 = (pc : Int) by omega]; exact IntWalk.i64_in _ (by omega)
  go_wp2
  go_quiet (fail)
  go_wp2
  go_ret
  exact ⟨rfl, nq, rfl⟩

set_option maxHeartbeats 400000 in
theorem setOp_st (S base : Nat) (cs ls : List Int) (pc i : Nat) (v : Int) (w : World) (h : Store w S base cs ls pc) (hi : i < cs.length) (hx : Fld.W32 (cs.getD i 0)) (hn : cs.length ≤ 131072) :
    Calls Try.prog 30 #[.pointer (some ⟨S, 0, none⟩), .int .i64 i, .int .i64 v] w fun e w' => e = .returned (.tuple #[]) ∧ Store w' S base (cs.set i (Fld.setOp (cs.getD i 0) v)) ls pc ∧ Below base w w' := by
  obtain ⟨ca, cc, la, lc, h⟩ := h
  have h0 := h.c0
  obtain ⟨g, cur, e, hb, hgc, hgi, _⟩ := row_cell h.hc hi
  subst e
  have hc : w.cell? ⟨g, i, none⟩ = some (.int .u32 (cs.getD i 0)) := (cell_of_row _ _ _ _ _ _ hgc).trans hgi
  have hf : w.frozen? ⟨g, i, none⟩ = false := frozen_of_row _ _ _ _ _ hgc
  have H := Lib.hid (h.setC i (Fld.setOp (cs.getD i 0) v))
  have HX := Lib.hid hx
  clear h hgc hgi hx
  generalize cs.length = n at *
  generalize cs.getD i 0 = x at *
  have b1 : (0 : Int) ≤ (i : Int) := by omega
  have b2 : (i : Int) < (n : Int) := by omega
  go_enter Try.func30, Try.ntmps30
  go_wp2_with fail
  refine (setOp_any g i x v _ HX.out hc hf).mono ?_; rintro e w1 ⟨rfl, rfl⟩
  go_wp2
  go_end0
  exact ⟨rfl, ⟨_, _, _, _, H.out⟩, (Below.refl _ _).setCell (p := ⟨g, i, none⟩) hb _⟩

set_option maxHeartbeats 400000 in
theorem setA_st (S base : Nat) (cs ls : List Int) (pc i : Nat) (v : Int) (w : World) (h : Store w S base cs ls pc) (hi : i < cs.length) (hx : Fld.W32 (cs.getD i 0)) (hn : cs.length ≤ 131072) :
    Calls Try.prog 31 #[.pointer (some ⟨S, 0, none⟩), .int .i64 i, .int .i64 v] w fun e w' => e = .returned (.tuple #[]) ∧ Store w' S base (cs.set i (Fld.setA (cs.getD i 0) v)) ls pc ∧ Below base w w' := by
  obtain ⟨ca, cc, la, lc, h⟩ := h
  have h0 := h.c0
  obtain ⟨g, cur, e, hb, hgc, hgi, _⟩ := row_cell h.hc hi
  subst e
  have hc : w.cell? ⟨g, i, none⟩ = some (.int .u32 (cs.getD i 0)) := (cell_of_row _ _ _ _ _ _ hgc).trans hgi
  have hf : w.frozen? ⟨g, i, none⟩ = false := frozen_of_row _ _ _ _ _ hgc
  have H := Lib.hid (h.setC i (Fld.setA (cs.getD i 0) v))
  have HX := Lib.hid hx
  clear h hgc hgi hx
  generalize cs.length = n at *
  generalize cs.getD i 0 = x at *
  have b1 : (0 : Int) ≤ (i : Int) := by omega
  have b2 : (i : Int) < (n : Int) := by omega
  go_enter Try.func31, Try.ntmps31
  go_wp2_with fail
  refine (setA_any g i x v _ HX.out hc hf).mono ?_; rintro e w1 ⟨rfl, rfl⟩
  go_wp2
  go_end0
  exact ⟨rfl, ⟨_, _, _, _, H.out⟩, (Below.refl _ _).setCell (p := ⟨g, i, none⟩) hb _⟩

set_option maxHeartbeats 400000 in
theorem setB_st (S base : Nat) (cs ls : List Int) (pc i : Nat) (v : Int) (w : World) (h : Store w S base cs ls pc) (hi : i < cs.length) (hx : Fld.W32 (cs.getD i 0)) (hn : cs.length ≤ 131072) :
    Calls Try.prog 29 #[.pointer (some ⟨S, 0, none⟩), .int .i64 i, .int .i64 v] w fun e w' => e = .returned (.tuple #[]) ∧ Store w' S base (cs.set i (Fld.setB (cs.getD i 0) v)) ls pc ∧ Below base w w' := by
  obtain ⟨ca, cc, la, lc, h⟩ := h
  have h0 := h.c0
  obtain ⟨g, cur, e, hb, hgc, hgi, _⟩ := row_cell h.hc hi
  subst e
  have hc : w.cell? ⟨g, i, none⟩ = some (.int .u32 (cs.getD i 0)) := (cell_of_row _ _ _ _ _ _ hgc).trans hgi
  have hf : w.frozen? ⟨g, i, none⟩ = false := frozen_of_row _ _ _ _ _ hgc
  have H := Lib.hid (h.setC i (Fld.setB (cs.getD i 0) v))
  have HX := Lib.hid hx
  clear h hgc hgi hx
  generalize cs.length = n at *
  generalize cs.getD i 0 = x at *
  have b1 : (0 : Int) ≤ (i : Int) := by omega
  have b2 : (i : Int) < (n : Int) := by omega
  go_enter Try.func29, Try.ntmps29
  go_wp2_with fail
  refine (setB_any g i x v _ HX.out hc hf).mono ?_; rintro e w1 ⟨rfl, rfl⟩
  go_wp2
  go_end0
  exact ⟨rfl, ⟨_, _, _, _, H.out⟩, (Below.refl _ _).setCell (p := ⟨g, i, none⟩) hb _⟩

set_option maxHeartbeats 400000 in
theorem setC_st (S base : Nat) (cs ls : List Int) (pc i : Nat) (v : Int) (w : World) (h : Store w S base cs ls pc) (hi : i < cs.length) (hx : Fld.W32 (cs.getD i 0)) (hn : cs.length ≤ 131072) :
    Calls Try.prog 32 #[.pointer (some ⟨S, 0, none⟩), .int .i64 i, .int .i64 v] w fun e w' => e = .returned (.tuple #[]) ∧ Store w' S base (cs.set i (Fld.setC (cs.getD i 0) v)) ls pc ∧ Below base w w' := by
  obtain ⟨ca, cc, la, lc, h⟩ := h
  have h0 := h.c0
  obtain ⟨g, cur, e, hb, hgc, hgi, _⟩ := row_cell h.hc hi
  subst e
  have hc : w.cell? ⟨g, i, none⟩ = some (.int .u32 (cs.getD i 0)) := (cell_of_row _ _ _ _ _ _ hgc).trans hgi
  have hf : w.frozen? ⟨g, i, none⟩ = false := frozen_of_row _ _ _ _ _ hgc
  have H := Lib.hid (h.setC i (Fld.setC (cs.getD i 0) v))
  have HX := Lib.hid hx
  clear h hgc hgi hx
  generalize cs.length = n at *
  generalize cs.getD i 0 = x at *
  have b1 : (0 : Int) ≤ (i : Int) := by omega
  have b2 : (i : Int) < (n : Int) := by omega
  go_enter Try.func32, Try.ntmps32
  go_wp2_with fail
  refine (setC_any g i x v _ HX.out hc hf).mono ?_; rintro e w1 ⟨rfl, rfl⟩
  go_wp2
  go_end0
  exact ⟨rfl, ⟨_, _, _, _, H.out⟩, (Below.refl _ _).setCell (p := ⟨g, i, none⟩) hb _⟩

set_option maxHeartbeats 400000 in
theorem pop_st (S base : Nat) (cs ls : List Int) (pc : Nat) (w : World) (h : Store w S base cs ls (pc + 1)) (hpc : pc ≤ 131072) :
    Calls Try.prog 39 #[.pointer (some ⟨S, 0, none⟩)] w fun e w' => e = .returned (.tuple #[]) ∧ Store w' S base cs ls pc ∧ Below base w w' := by
  obtain ⟨ca, cc, la, lc, h⟩ := h
  have h2 := h.c2
  have hf : ∀ o, w.frozen? ⟨S, o, none⟩ = false := fun o => frozen_of_row _ _ _ _ _ h.hS
  have H := Lib.hid h
  clear h
  go_enter Try.func39, Try.ntmps39
  go_wp2
  go_end0
  exact ⟨rfl, ⟨_, _, _, _, H.out.setPc pc⟩, (Below.refl _ _).setCell (p := ⟨S, 2, none⟩) H.out.hb _⟩

end Go.Proofs.Ytnpljmcmpeaafaa
