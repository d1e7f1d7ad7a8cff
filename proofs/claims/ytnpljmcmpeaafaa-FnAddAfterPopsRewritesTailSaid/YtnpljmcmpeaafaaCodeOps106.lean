/- The contracts of codeStore's other methods, and of the functions that build an instruction. -/
import Derived.Test.YtnpljmcmpeaafaaCodeAdd106
import Derived.Test.YtnpljmcmpeaafaaCodeApp106
import Derived.Test.YtnpljmcmpeaafaaFldSetOp
import Derived.Test.YtnpljmcmpeaafaaFldSetA
import Derived.Test.YtnpljmcmpeaafaaFldSetB
import Derived.Test.YtnpljmcmpeaafaaFldSetC
import Derived.Test.YtnpljmcmpeaafaaFldSetBx
namespace Go.Proofs.Ytnpljmcmpeaafaa
open Go.RowKit
set_option linter.unusedVariables false

/-- A code store, wherever its rows lie. -/
def Store (w : World) (S base : Nat) (cs ls : List Int) (pc : Nat) : Prop := ∃ ca cc la lc, Cs w S base cs ls pc ca cc la lc
theorem Store.below {w w' : World} {S base : Nat} {cs ls : List Int} {pc : Nat} (h : Store w S base cs ls pc) {B : Nat} (hB : w.heap.size ≤ B) (hb : Below B w w') : Store w' S base cs ls pc := by
  obtain ⟨ca, cc, la, lc, h⟩ := h
  exact ⟨ca, cc, la, lc, h.below hB hb⟩
theorem Store.drewN {w : World} {S base : Nat} {cs ls : List Int} {pc : Nat} (h : Store w S base cs ls pc) (n : Nat) : Store (w.drewN n) S base cs ls pc := by
  obtain ⟨ca, cc, la, lc, h⟩ := h
  exact ⟨ca, cc, la, lc, h.drewN n⟩
theorem below_drewN {B : Nat} {a w : World} (h : Below B a w) (n : Nat) : Below B a (w.drewN n) := ⟨h.os, h.tape, h.output, h.size, h.block⟩
theorem Store.lt {w : World} {S base : Nat} {cs ls : List Int} {pc : Nat} (h : Store w S base cs ls pc) : S < w.heap.size := by
  obtain ⟨ca, cc, la, lc, h⟩ := h
  exact lt_of_block h.hS
theorem Store.base {w : World} {S base : Nat} {cs ls : List Int} {pc : Nat} (h : Store w S base cs ls pc) : base ≤ S := by
  obtain ⟨ca, cc, la, lc, h⟩ := h
  exact h.hb

theorem addL_lt {l : List Int} {pc : Nat} {x : Int} (h : pc < l.length) : addL l pc x = l.set pc x := if_pos h
theorem addL_ge {l : List Int} {pc : Nat} {x : Int} (h : ¬ pc < l.length) : addL l pc x = l ++ [x] := if_neg h
theorem addL_len {l : List Int} {pc : Nat} {x : Int} (h : pc ≤ l.length) : (addL l pc x).length = if pc < l.length then l.length else l.length + 1 := by
  unfold addL; split <;> simp
theorem addL_at {l : List Int} {pc : Nat} {x : Int} (h : pc ≤ l.length) : (addL l pc x).getD pc 0 = x := by
  unfold addL
  split
  · next h1 => simp [List.getD, h1]
  · next h1 =>
    have e : pc = l.length := by omega
    subst e
    simp [List.getD]
theorem addL_other {l : List Int} {pc i : Nat} {x : Int} (h : pc ≤ l.length) (hi : i ≠ pc) : (addL l pc x).getD i 0 = l.getD i 0 := by
  unfold addL
  split
  · next h1 => simp [List.getD, Ne.symm hi]
  · next h1 =>
    simp only [List.getD]
    by_cases h2 : i < l.length
    · rw [List.getElem?_append_left h2]
    · rw [List.getElem?_eq_none (by simp; omega), List.getElem?_eq_none (by omega)]

theorem add_any (S base : Nat) (cs ls : List Int) (pc : Nat) (inst line : Int) (w : World) (h : Store w S base cs ls pc) (hpc : pc ≤ cs.length) (hlen : ls.length = cs.length) (hn : cs.length ≤ 131072) :
    Calls Try.prog 15 #[.pointer (some ⟨S, 0, none⟩), .int .u32 inst, .int .i64 line] w fun e w' => e = .returned (.tuple #[]) ∧
      Store w' S base (addL cs pc inst) (addL ls pc line) (pc + 1) ∧ Below base w w' := by
  obtain ⟨ca, cc, la, lc, h⟩ := h
  by_cases hl : pc < cs.length
  · rw [addL_lt hl, addL_lt (by omega)]
    exact (add_set S base cs ls pc ca cc la lc inst line w h hl hlen hn).mono fun e w' ⟨h1, h2, h3⟩ => ⟨h1, ⟨_, _, _, _, h2⟩, h3⟩
  · have e : pc = cs.length := by omega
    subst e
    rw [addL_ge hl, addL_ge (by omega)]
    exact (add_app S base cs.length cs ls ca cc la lc inst line w h rfl hlen hn).mono fun e w' ⟨h1, h2, h3⟩ => ⟨h1, h2, h3⟩

set_option maxHeartbeats 400000 in
theorem pc_any (S base : Nat) (cs ls : List Int) (pc : Nat) (w : World) (h : Store w S base cs ls pc) :
    Calls Try.prog 18 #[.pointer (some ⟨S, 0, none⟩)] w fun e w' => e = .returned (.int .i64 pc) ∧ w = w' := by
  obtain ⟨ca, cc, la, lc, h⟩ := h
  have h2 := h.c2
  clear h
  go_enter Try.func18, Try.ntmps18
  go_wp2
  go_ret
  exact ⟨rfl, rfl⟩

set_option maxHeartbeats 400000 in
theorem lastPC_any (S base : Nat) (cs ls : List Int) (pc : Nat) (w : World) (h : Store w S base cs ls pc) (hpc : pc ≤ 131073) :
    Calls Try.prog 22 #[.pointer (some ⟨S, 0, none⟩)] w fun e w' => e = .returned (.int .i64 ((pc : Int) - 1)) ∧ w = w' := by
  obtain ⟨ca, cc, la, lc, h⟩ := h
  have h2 := h.c2
  clear h
  go_enter Try.func22, Try.ntmps22
  go_wp2
  go_ret
  exact ⟨rfl, rfl⟩

/-- A slice that reads as a list of numbers. -/
def Rd (w : World) (k : IntKind) (a : Option Addr) (l : List Int) : Prop := ∀ i, i < l.length → ∃ g, a = some ⟨g, 0, none⟩ ∧ g < w.heap.size ∧ w.cell? ⟨g, i, none⟩ = some (.int k (l.getD i 0))
theorem Rd.below {w w' : World} {k : IntKind} {a : Option Addr} {l : List Int} (h : Rd w k a l) {B : Nat} (hB : w.heap.size ≤ B) (hb : Below B w w') : Rd w' k a l := fun i hi => by
  obtain ⟨g, h1, h2, h3⟩ := h i hi
  exact ⟨g, h1, Nat.lt_of_lt_of_le h2 hb.size, (hb.cell (p := ⟨g, i, none⟩) (Nat.lt_of_lt_of_le h2 hB)).trans h3⟩
theorem Rd.drewN {w : World} {k : IntKind} {a : Option Addr} {l : List Int} (h : Rd w k a l) (n : Nat) : Rd (w.drewN n) k a l := h
theorem rd_row {w : World} {base : Nat} {T : TypeId} {k : IntKind} {a : Option Addr} {c : Nat} {l : List Int} (h : w.ownsRow base T 1 (.slice a l.length c) l.length (l.map (Value.int k))) : Rd w k a l := fun i hi => by
  obtain ⟨g, cur, h1, _, h3, h4, _⟩ := row_cell h hi
  exact ⟨g, h1, lt_of_block h3, (cell_of_row _ _ _ _ _ _ h3).trans h4⟩
theorem Rd.take {w : World} {k : IntKind} {a : Option Addr} {l : List Int} (h : Rd w k a l) (n : Nat) : Rd w k a (l.take n) := fun i hi => by
  have hl : i < l.length ∧ i < n := by simp at hi; omega
  obtain ⟨g, h1, h2, h3⟩ := h i hl.1
  exact ⟨g, h1, h2, by rw [getD_take _ _ _ _ hl.2]; exact h3⟩

def Row (w : World) (k : IntKind) (l : List Int) (e : Ending) (w' : World) : Prop := ∃ a c, e = .returned (.slice a l.length c) ∧ Rd w k a l ∧ w = w'

set_option maxHeartbeats 400000 in
theorem codes_any (S base : Nat) (cs ls : List Int) (pc : Nat) (w : World) (h : Store w S base cs ls pc) :
    Calls Try.prog 16 #[.pointer (some ⟨S, 0, none⟩)] w (Row w .u32 cs) := by
  obtain ⟨ca, cc, la, lc, h⟩ := h
  have h2 := h.c0
  have hr := rd_row h.hc
  have HR := Lib.hid hr
  clear h hr
  go_enter Try.func16, Try.ntmps16
  go_wp2
  go_ret
  exact ⟨_, _, rfl, HR.out, rfl⟩

set_option maxHeartbeats 400000 in
theorem lines_any (S base : Nat) (cs ls : List Int) (pc : Nat) (w : World) (h : Store w S base cs ls pc) :
    Calls Try.prog 17 #[.pointer (some ⟨S, 0, none⟩)] w (Row w .i64 ls) := by
  obtain ⟨ca, cc, la, lc, h⟩ := h
  have h2 := h.c1
  have hr := rd_row h.hl
  have HR := Lib.hid hr
  clear h hr
  go_enter Try.func17, Try.ntmps17
  go_wp2
  go_ret
  exact ⟨_, _, rfl, HR.out, rfl⟩

end Go.Proofs.Ytnpljmcmpeaafaa
