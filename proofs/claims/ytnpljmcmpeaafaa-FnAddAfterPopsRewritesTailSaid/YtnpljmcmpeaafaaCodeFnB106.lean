/- The contracts of AddABC, AddABx, AddASbx, SetSbx, encode, eqU32 and eqInt. -/
import Derived.Test.YtnpljmcmpeaafaaCodeFn106
namespace Go.Proofs.Ytnpljmcmpeaafaa
open Go.RowKit
set_option linter.unusedVariables false

def wABC (op a b c : Int) : Int := Fld.setC (Fld.setB (Fld.setA (Fld.setOp 0 op) a) b) c
def wABx (op a bx : Int) : Int := Fld.setBx (Fld.setA (Fld.setOp 0 op) a) bx
def wASbx (op a sbx : Int) : Int := Fld.setSbx (Fld.setA (Fld.setOp 0 op) a) sbx
theorem w0 : Fld.W32 0 := by unfold Fld.W32; omega
theorem wABC_w (op a b c : Int) : Fld.W32 (wABC op a b c) := Fld.setC_w (Fld.setB_w (Fld.setA_w (Fld.setOp_w w0)))
theorem wABx_w (op a bx : Int) : Fld.W32 (wABx op a bx) := Fld.setBx_w (Fld.setA_w (Fld.setOp_w w0))
theorem wASbx_w (op a sbx : Int) : Fld.W32 (wASbx op a sbx) := Fld.setBx_w (Fld.setA_w (Fld.setOp_w w0))
theorem mkABC (op a b c : Int) (w : World) : Calls Try.prog 41 #[.int .i64 op, .int .i64 a, .int .i64 b, .int .i64 c] w fun e w' => e = .returned (.int .u32 (wABC op a b c)) ∧ Below w.heap.size w w' := opCreateABC_any op a b c w
theorem mkABx (op a bx : Int) (w : World) : Calls Try.prog 40 #[.int .i64 op, .int .i64 a, .int .i64 bx] w fun e w' => e = .returned (.int .u32 (wABx op a bx)) ∧ Below w.heap.size w w' := opCreateABx_any op a bx w
theorem mkASbx (op a sbx : Int) (w : World) : Calls Try.prog 42 #[.int .i64 op, .int .i64 a, .int .i64 sbx] w fun e w' => e = .returned (.int .u32 (wASbx op a sbx)) ∧ Below w.heap.size w w' := opCreateASbx_any op a sbx w

set_option maxHeartbeats 400000 in
theorem AddABC_any (S base : Nat) (cs ls : List Int) (pc : Nat) (op a b c line : Int) (w : World) (h : Store w S base cs ls pc) (hpc : pc ≤ cs.length) (hlen : ls.length = cs.length) (hn : cs.length ≤ 131072) :
    Calls Try.prog 25 #[.pointer (some ⟨S, 0, none⟩), .int .i64 op, .int .i64 a, .int .i64 b, .int .i64 c, .int .i64 line] w fun e w' => e = .returned (.tuple #[]) ∧ Store w' S base (addL cs pc (wABC op a b c)) (addL ls pc line) (pc + 1) ∧ Below base w w' := by
  have H := Lib.hid h
  have HP := Lib.hid hpc
  have HL := Lib.hid hlen
  have HN := Lib.hid hn
  clear h hpc hlen hn
  go_enter Try.func25, Try.ntmps25
  go_wp2_with fail
  refine (mkABC op a b c _).mono ?_; rintro e w1 ⟨rfl, hb⟩
  have H1 := Lib.hid (H.out.below (Nat.le_refl _) hb)
  have HB1 := Lib.hid (hb.mono (Nat.le_trans H.out.base (Nat.le_of_lt H.out.lt)))
  clear hb
  go_wp2_with fail
  refine (add_any S base cs ls pc _ line _ H1.out HP.out HL.out HN.out).mono ?_; rintro e w2 ⟨rfl, hs, hb2⟩
  have H2 := Lib.hid hs
  have HB2 := Lib.hid hb2
  clear hs hb2
  go_wp2
  go_end0
  exact ⟨rfl, H2.out, HB1.out.trans HB2.out⟩

set_option maxHeartbeats 400000 in
theorem AddABx_any (S base : Nat) (cs ls : List Int) (pc : Nat) (op a bx line : Int) (w : World) (h : Store w S base cs ls pc) (hpc : pc ≤ cs.length) (hlen : ls.length = cs.length) (hn : cs.length ≤ 131072) :
    Calls Try.prog 24 #[.pointer (some ⟨S, 0, none⟩), .int .i64 op, .int .i64 a, .int .i64 bx, .int .i64 line] w fun e w' => e = .returned (.tuple #[]) ∧ Store w' S base (addL cs pc (wABx op a bx)) (addL ls pc line) (pc + 1) ∧ Below base w w' := by
  have H := Lib.hid h
  have HP := Lib.hid hpc
  have HL := Lib.hid hlen
  have HN := Lib.hid hn
  clear h hpc hlen hn
  go_enter Try.func24, Try.ntmps24
  go_wp2_with fail
  refine (mkABx op a bx _).mono ?_; rintro e w1 ⟨rfl, hb⟩
  have H1 := Lib.hid (H.out.below (Nat.le_refl _) hb)
  have HB1 := Lib.hid (hb.mono (Nat.le_trans H.out.base (Nat.le_of_lt H.out.lt)))
  clear hb
  go_wp2_with fail
  refine (add_any S base cs ls pc _ line _ H1.out HP.out HL.out HN.out).mono ?_; rintro e w2 ⟨rfl, hs, hb2⟩
  have H2 := Lib.hid hs
  have HB2 := Lib.hid hb2
  clear hs hb2
  go_wp2
  go_end0
  exact ⟨rfl, H2.out, HB1.out.trans HB2.out⟩

set_option maxHeartbeats 400000 in
theorem AddASbx_any (S base : Nat) (cs ls : List Int) (pc : Nat) (op a sbx line : Int) (w : World) (h : Store w S base cs ls pc) (hpc : pc ≤ cs.length) (hlen : ls.length = cs.length) (hn : cs.length ≤ 131072) :
    Calls Try.prog 27 #[.pointer (some ⟨S, 0, none⟩), .int .i64 op, .int .i64 a, .int .i64 sbx, .int .i64 line] w fun e w' => e = .returned (.tuple #[]) ∧ Store w' S base (addL cs pc (wASbx op a sbx)) (addL ls pc line) (pc + 1) ∧ Below base w w' := by
  have H := Lib.hid h
  have HP := Lib.hid hpc
  have HL := Lib.hid hlen
  have HN := Lib.hid hn
  clear h hpc hlen hn
  go_enter Try.func27, Try.ntmps27
  go_wp2_with fail
  refine (mkASbx op a sbx _).mono ?_; rintro e w1 ⟨rfl, hb⟩
  have H1 := Lib.hid (H.out.below (Nat.le_refl _) hb)
  have HB1 := Lib.hid (hb.mono (Nat.le_trans H.out.base (Nat.le_of_lt H.out.lt)))
  clear hb
  go_wp2_with fail
  refine (add_any S base cs ls pc _ line _ H1.out HP.out HL.out HN.out).mono ?_; rintro e w2 ⟨rfl, hs, hb2⟩
  have H2 := Lib.hid hs
  have HB2 := Lib.hid hb2
  clear hs hb2
  go_wp2
  go_end0
  exact ⟨rfl, H2.out, HB1.out.trans HB2.out⟩

set_option maxHeartbeats 400000 in
theorem SetSbx_st (S base : Nat) (cs ls : List Int) (pc i : Nat) (v : Int) (w : World) (h : Store w S base cs ls pc) (hi : i < cs.length) (hx : Fld.W32 (cs.getD i 0)) (hn : cs.length ≤ 131072) :
    Calls Try.prog 28 #[.pointer (some ⟨S, 0, none⟩), .int .i64 i, .int .i64 v] w fun e w' => e = .returned (.tuple #[]) ∧ Store w' S base (cs.set i (Fld.setSbx (cs.getD i 0) v)) ls pc ∧ Below base w w' := by
  obtain ⟨ca, cc, la, lc, h⟩ := h
  have h0 := h.c0
  obtain ⟨g, cur, e, hb, hgc, hgi, _⟩ := row_cell h.hc hi
  subst e
  have hc : w.cell? ⟨g, i, none⟩ = some (.int .u32 (cs.getD i 0)) := (cell_of_row _ _ _ _ _ _ hgc).trans hgi
  have hf : w.frozen? ⟨g, i, none⟩ = false := frozen_of_row _ _ _ _ _ hgc
  have H := Lib.hid (h.setC i (Fld.setSbx (cs.getD i 0) v))
  have HX := Lib.hid hx
  clear h hgc hgi hx
  generalize cs.length = n at *
  generalize cs.getD i 0 = x at *
  have b1 : (0 : Int) ≤ (i : Int) := by omega
  have b2 : (i : Int) < (n : Int) := by omega
  go_enter Try.func28, Try.ntmps28
  go_wp2_with fail
  refine (setSbx_any g i x v _ HX.out hc hf).mono ?_; rintro e w1 ⟨rfl, rfl⟩
  go_wp2
  go_end0
  exact ⟨rfl, ⟨_, _, _, _, H.out⟩, (Below.refl _ _).setCell (p := ⟨g, i, none⟩) hb _⟩

set_option maxHeartbeats 1000000 in
theorem eqU32_true (a b : Option Addr) (n c d : Nat) (l : List Int) (w : World) (hl : l.length = n) (hn : n ≤ 262144) (ha : Rd w .u32 a l) (hb : Rd w .u32 b l) :
    Calls Try.prog 35 #[.slice a n c, .slice b n d] w fun e w' => e = .returned (.bool true) ∧ ∃ q, w' = w.drewN q := by
  have HA := Lib.hid ha
  have HB := Lib.hid hb
  have HL := Lib.hid hl
  clear ha hb hl
  go_enter Try.func35, Try.ntmps35
  go_wp2_with fail
  go_loopw [5] (fun i wr => ∃ k q : Nat, k ≤ n ∧ i = .int .i64 k ∧ wr = w.drewN q) (fun i _ => n - (intOf i).toNat)
  case atStart => exact ⟨0, 0, by omega, rfl, rfl⟩
  case round =>
    obtain ⟨k, q, hk, rfl, hwq⟩ := hrel
    have HWQ := Lib.hid hwq
    by_cases hkl : k < n
    · obtain ⟨g, ea, _, c1⟩ := (HA.out.drewN q) k (by rw [HL.out]; exact hkl)
      obtain ⟨g', eb, _, c2⟩ := (HB.out.drewN q) k (by rw [HL.out]; exact hkl)
      rw [← hwq] at c1 c2
      subst ea
      subst eb
      clear hwq
      generalize l.getD k 0 = u at *
      have b1 : (0 : Int) ≤ (k : Int) := by omega
      have b2 : (k : Int) < (n : Int) := by omega
      go_wp2
      go_quiet (fail)
      go_wp2
      go_roundw
      case rel => exact ⟨k + 1, q + nq, by omega, by go_num, by rw [HWQ.out, World.drewN_drewN]⟩
      case measure => simp [intOf]; omega
    · have hkk : k = n := by omega
      subst hkk
      clear hwq
      go_wp2
      go_ret
      exact ⟨rfl, q, HWQ.out⟩

set_option maxHeartbeats 1000000 in
theorem eqInt_true (a b : Option Addr) (n c d : Nat) (l : List Int) (w : World) (hl : l.length = n) (hn : n ≤ 262144) (ha : Rd w .i64 a l) (hb : Rd w .i64 b l) :
    Calls Try.prog 26 #[.slice a n c, .slice b n d] w fun e w' => e = .returned (.bool true) ∧ ∃ q, w' = w.drewN q := by
  have HA := Lib.hid ha
  have HB := Lib.hid hb
  have HL := Lib.hid hl
  clear ha hb hl
  go_enter Try.func26, Try.ntmps26
  go_wp2_with fail
  go_loopw [5] (fun i wr => ∃ k q : Nat, k ≤ n ∧ i = .int .i64 k ∧ wr = w.drewN q) (fun i _ => n - (intOf i).toNat)
  case atStart => exact ⟨0, 0, by omega, rfl, rfl⟩
  case round =>
    obtain ⟨k, q, hk, rfl, hwq⟩ := hrel
    have HWQ := Lib.hid hwq
    by_cases hkl : k < n
    · obtain ⟨g, ea, _, c1⟩ := (HA.out.drewN q) k (by rw [HL.out]; exact hkl)
      obtain ⟨g', eb, _, c2⟩ := (HB.out.drewN q) k (by rw [HL.out]; exact hkl)
      rw [← hwq] at c1 c2
      subst ea
      subst eb
      clear hwq
      generalize l.getD k 0 = u at *
      have b1 : (0 : Int) ≤ (k : Int) := by omega
      have b2 : (k : Int) < (n : Int) := by omega
      go_wp2
      go_quiet (fail)
      go_wp2
      go_roundw
      case rel => exact ⟨k + 1, q + nq, by omega, by go_num, by rw [HWQ.out, World.drewN_drewN]⟩
      case measure => simp [intOf]; omega
    · have hkk : k = n := by omega
      subst hkk
      clear hwq
      go_wp2
      go_ret
      exact ⟨rfl, q, HWQ.out⟩

set_option maxHeartbeats 400000 in
theorem encode_any (op a x : Int) (hop : (Lit.int .i64 op).wf = true) (ha : (Lit.int .i64 a).wf = true) (hx0 : 0 ≤ x) (hx1 : x < 262144) (w : World) :
    Calls Try.prog 34 #[.int .i64 op, .int .i64 a, .int .i64 x] w fun e w' => e = .returned (.int .u32 (op % 64 * 67108864 + a % 256 * 262144 + x)) ∧ w = w' := by
  have h1 : 0 ≤ op % 64 ∧ op % 64 < 64 := by omega
  have h2 : 0 ≤ a % 256 ∧ a % 256 < 256 := by omega
  have HOP := Lib.hid hop
  have HA := Lib.hid ha
  clear hop ha
  have c1 := emod_any op 64 HOP.out (by omega) (by omega)
  have c2 := emod_any a 256 HA.out (by omega) (by omega)
  generalize op % 64 = m1 at *
  generalize a % 256 = m2 at *
  have C1 := Lib.hid c1
  have C2 := Lib.hid c2
  clear c1 c2
  go_enter Try.func34, Try.ntmps34
  go_wp2_with fail
  refine (C1.out _).mono ?_; rintro e w1 ⟨rfl, rfl⟩
  go_wp2_with fail
  refine (C2.out _).mono ?_; rintro e w1 ⟨rfl, rfl⟩
  go_wp2
  go_ret
  exact ⟨rfl, rfl⟩

end Go.Proofs.Ytnpljmcmpeaafaa
