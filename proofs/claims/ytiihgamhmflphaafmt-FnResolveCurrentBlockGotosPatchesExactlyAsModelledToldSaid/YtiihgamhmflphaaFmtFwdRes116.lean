/- ResolveGoto and ResolveForwardGoto. -/
import Derived.Test.YtiihgamhmflphaaFmtFwd116
import Derived.Test.YtiihgamhmflphaaFmtFldSetBx
namespace Go.Proofs.YtiihgamhmflphaaFmt
open Go.RowKit Go.Maps
set_option linter.unusedVariables false

set_option maxHeartbeats 400000 in
theorem setSbx_any (b o : Nat) (x k : Int) (w : World) (hx : Fld.W32 x) (hc : w.cell? ⟨b, o, none⟩ = some (.int .u32 x)) (hf : w.frozen? ⟨b, o, none⟩ = false) :
    Calls Tryf.prog 58 #[.pointer (some ⟨b, o, none⟩), .int .i64 k] w fun e w' => e = .returned (.tuple #[]) ∧ w.setCell ⟨b, o, none⟩ (.int .u32 (Fld.setSbx x k)) = w' := by
  have HX := Lib.hid hx
  clear hx
  go_enter Tryf.func58, Tryf.ntmps58
  go_wp2_with fail
  refine (setBx_any b o x _ _ HX.out hc hf).mono ?_; rintro e w1 ⟨rfl, rfl⟩
  go_wp2
  go_end0
  exact ⟨rfl, rfl⟩

/-- The target's description. -/
def Td (w : World) (T : Nat) (tid : Int) (tn : ByteArray) (tN : Int) : Prop := ∃ pc line, w.heap[T]? = some (.cells #[.int .i64 tid, .string tn, .int .i64 pc, .int .i64 line, .int .i64 tN] 51 (0, 0))
theorem Td.keep {w w' : World} {T : Nat} {tid tN : Int} {tn : ByteArray} (h : Td w T tid tn tN) (hk : w'.heap[T]? = w.heap[T]?) : Td w' T tid tn tN := by
  obtain ⟨i, l, h⟩ := h
  exact ⟨i, l, hk.trans h⟩
theorem Td.lt {w : World} {T : Nat} {tid tN : Int} {tn : ByteArray} (h : Td w T tid tn tN) : T < w.heap.size := by
  obtain ⟨i, l, h⟩ := h
  exact lt_of_block h
theorem Td.c0 {w : World} {T : Nat} {tid tN : Int} {tn : ByteArray} (h : Td w T tid tn tN) : w.cell? ⟨T, 0, none⟩ = some (.int .i64 tid) := by
  obtain ⟨i, l, h⟩ := h
  rw [cell_of_row _ _ _ _ _ _ h]; rfl
theorem Td.c1 {w : World} {T : Nat} {tid tN : Int} {tn : ByteArray} (h : Td w T tid tn tN) : w.cell? ⟨T, 1, none⟩ = some (.string tn) := by
  obtain ⟨i, l, h⟩ := h
  rw [cell_of_row _ _ _ _ _ _ h]; rfl
theorem Td.c4 {w : World} {T : Nat} {tid tN : Int} {tn : ByteArray} (h : Td w T tid tn tN) : w.cell? ⟨T, 4, none⟩ = some (.int .i64 tN) := by
  obtain ⟨i, l, h⟩ := h
  rw [cell_of_row _ _ _ _ _ _ h]; rfl

section
variable (F C Bk U : Nat) (p : Option Addr) (h : Nat → Option Nat) (base n : Nat) (first : Int) (cs : List Int) (ns : Nat → ByteArray) (ps nu : Nat → Int)

set_option maxHeartbeats 400000 in
theorem SetSbx_sx (i : Nat) (v : Int) (w : World) (s : Sx w F C Bk U p h base n first cs ns ps nu) (hi : i < cs.length) (hx : Fld.W32 (cs.getD i 0)) (hn : cs.length ≤ 1048576) {T : Nat} {tid tN : Int} {tn : ByteArray} (td : Td w T tid tn tN) :
    Calls Tryf.prog 54 #[.pointer (some ⟨C, 0, none⟩), .int .i64 (i : Int), .int .i64 v] w fun e w' => e = .returned (.tuple #[]) ∧ Sx w' F C Bk U p h base n first (cs.set i (Fld.setSbx (cs.getD i 0) v)) ns ps nu ∧ Td w' T tid tn tN ∧ Below base w w' := by
  have c0 := s.c0
  obtain ⟨r, hp, hb, hc, hf⟩ := s.word hi
  have H := Lib.hid (s.ofR (x := Fld.setSbx (cs.getD i 0) v) hp hi)
  have HT := Lib.hid (td.keep (w' := w.setCell ⟨r, i, none⟩ (.int .u32 (Fld.setSbx (cs.getD i 0) v))) (heap_setCell_other _ _ _ _ (by
    obtain ⟨_, _, ht⟩ := td
    rcases s.hR with ⟨h1, h2⟩ | ⟨r', h1, h2, h3⟩
    · rw [h2] at hi; simp at hi
    · have e : r = r' := by rw [hp] at h1; injection h1 with h1; injection h1 with h1; injection h1
      subst e
      exact ty_ne ht h3 (by decide))))
  subst hp
  have HX := Lib.hid hx
  clear s hx td
  generalize cs.length = N at *
  generalize cs.getD i 0 = x at *
  have b1 : (0 : Int) ≤ (i : Int) := by omega
  have b2 : (i : Int) < (N : Int) := by omega
  go_enter Tryf.func54, Tryf.ntmps54
  go_wp2_with fail
  refine (setSbx_any r i x v _ HX.out hc hf).mono ?_; rintro e w1 ⟨rfl, rfl⟩
  go_wp2
  go_end0
  exact ⟨rfl, H.out, HT.out, (Below.refl _ _).setCell (p := ⟨r, i, none⟩) hb _⟩

/-- One goto fewer. -/
def drop1 (h : Nat → Option Nat) (i : Nat) : Nat → Option Nat := fun j => if j = i then none else h j

set_option maxHeartbeats 1000000 in
set_option maxRecDepth 100000 in
theorem resolveGoto_any (i g k T : Nat) (tid tN : Int) (tn : ByteArray) (w : World) (s : Sx w F C Bk U p h base n first cs ns ps nu) (td : Td w T tid tn tN) (hq : h i = some g) (hi : i ≤ 1048576) (hN : tN ≤ nu i) (hk : ps i = (k : Int)) (hkl : k < cs.length) (hx : Fld.W32 (cs.getD k 0)) (hn : cs.length ≤ 1048576) :
    Calls Tryf.prog 44 #[.pointer (some ⟨F, 0, none⟩), .pointer (some ⟨g, 0, none⟩), .pointer (some ⟨T, 0, none⟩), .int .i64 (i : Int)] w fun e w' => e = .returned (.tuple #[]) ∧
      Sx w' F C Bk U p (drop1 h i) base n first (cs.set k (Fld.setSbx (cs.getD k 0) tid)) ns ps nu ∧ Td w' T tid tn tN ∧ Below base w w' := by
  have gd := (s.hG i g hq).2
  have g2 := gd.c2
  have g4 := gd.c4
  have t0 := td.c0
  have t4 := td.c4
  have f1 := s.f1
  rw [hk] at g2
  have hlt : ¬ (nu i < tN) := by omega
  generalize nu i = num at *
  have S := Lib.hid s
  have TD := Lib.hid td
  have HX := Lib.hid hx
  obtain ⟨cs1, hcs1⟩ : ∃ c, c = cs.set k (Fld.setSbx (cs.getD k 0) tid) := ⟨_, rfl⟩
  rw [← hcs1]
  have HC1 := Lib.hid hcs1
  clear s td gd hx hcs1
  go_enter Tryf.func44, Tryf.ntmps44
  go_wp2_with fail
  go_quiet (fail)
  have S1 := Lib.hid (S.out.drewN nq)
  have TD1 := Lib.hid (TD.out.keep (w' := w.drewN nq) rfl)
  have e1 : (w.drewN nq).cell? ⟨F, 1, none⟩ = some (.pointer (some ⟨C, 0, none⟩)) := f1
  have e2 : (w.drewN nq).cell? ⟨g, 2, none⟩ = some (.int .i64 (k : Int)) := g2
  have e3 : (w.drewN nq).cell? ⟨T, 0, none⟩ = some (.int .i64 tid) := t0
  have HB := Lib.hid (below_drewN (Below.refl base w) nq)
  generalize w.drewN nq = w1 at *
  go_wp2_with fail
  go_still_tail 12, (by kernel_rfl)
  change wpList _ _ _ _ _ w1.drew
  have S2 := Lib.hid (S1.out.drewN 1)
  have TD2 := Lib.hid (TD1.out.keep (w' := w1.drewN 1) rfl)
  have HB2 := Lib.hid (below_drewN HB.out 1)
  change Hid (Sx w1.drew F C Bk U p h base n first cs ns ps nu) at S2
  change Hid (Td w1.drew T tid tn tN) at TD2
  change Hid (Below base w w1.drew) at HB2
  generalize w1.drew = w2 at *
  go_wp2_with fail
  refine (SetSbx_sx F C Bk U p h base n first cs ns ps nu k tid _ S2.out hkl HX.out hn TD2.out).mono ?_; rintro e w3 ⟨rfl, s3, td3, hb3⟩
  rw [← HC1.out] at s3
  have f10 := s3.f10
  obtain ⟨D, hown, hD⟩ := s3.hU
  have hU := Lib.hid s3.bU
  have S3 := Lib.hid s3
  have TD3 := Lib.hid td3
  have HO := Lib.hid hown
  have HD := Lib.hid hD
  have HB3 := Lib.hid (HB2.out.trans hb3)
  have hUl := s3.hU.lt
  clear s3 td3 hown hD hb3
  go_wp2_with (at_delete; refine wpList_delete_own _ rfl _ _ 66 3 rfl 33 lawI Tryf.underlying66 _ U n D rfl HO.out _ _ rfl (keyOf_int_mk Tryf.underlying3 (wfi hi)) ?_; intro w4 hown4 hturn4)
  go_end0
  have hg := hturn4.grown
  have hblk : ∀ j, j < w3.heap.size → j ≠ U → w4.heap[j]? = w3.heap[j]? := fun j h1 h2 => hg.block j h1 (fun e => h2 (Option.some.inj e))
  obtain ⟨es, c, ho⟩ := S3.out.hU.obj
  refine ⟨by first | rfl | trivial, S3.out.ofU hblk ⟨_, hown4, fun j => ⟨?_, fun y hy => ?_⟩⟩ (fun j y hy => ?_), TD3.out.keep (hblk T TD3.out.lt (by obtain ⟨_, _, ht⟩ := TD3.out; exact map_ne ht ho)), HB3.out.grown hg (Nat.le_trans hU.out (Nat.le_of_lt hUl)) (fun j e => by cases e; exact hU.out)⟩
  · by_cases e : j = i
    · subst e
      simp [drop1, has_del_same]
    · rw [has_del_other (key_ne e), (HD.out j).1]
      simp [drop1, e]
  · unfold drop1 at hy
    by_cases e : j = i
    · rw [if_pos e] at hy; cases hy
    · rw [if_neg e] at hy
      rw [atKey_del_other (key_ne e)]
      exact (HD.out j).2 y hy
  · unfold drop1 at hy
    by_cases e : j = i
    · rw [if_pos e] at hy; cases hy
    · rw [if_neg e] at hy; exact hy
end

end Go.Proofs.YtiihgamhmflphaaFmt
