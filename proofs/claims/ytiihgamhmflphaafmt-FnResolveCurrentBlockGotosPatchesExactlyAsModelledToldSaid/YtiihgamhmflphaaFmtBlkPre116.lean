/- What the premise of the laws on blocks says. Printed by mkblk.py. -/
import Derived.Test.YtiihgamhmflphaaFmtBlkBuild116
namespace Go.Proofs.YtiihgamhmflphaaFmt
open Go.RowKit Go.Maps
set_option linter.unusedVariables false

/-- What the premise says of a goto. -/
def PBk (act x ef q : Int) (N : Nat) (rB rP : Bool) (f : Option Nat) (lN : Nat → Int) : Prop :=
  (act < x → rB = true → act ≤ 255 ∧ 1 ≤ q ∧ q ≤ (N : Int)) ∧ ∀ j, f = some j → lN j ≤ ef ∧ 0 ≤ q ∧ q < (N : Int) ∧ (lN j < ef → rP = true → 0 ≤ lN j ∧ lN j ≤ 255 ∧ 1 ≤ q)
/-- The labels that the premise found. -/
def jsf (fs : Nat) (lns ns : Nat → ByteArray) (J k : Nat) : Nat → Value := fun i => .int .i64 (if fs ≤ i ∧ i < k then flv lns (ns i) J else -1)
theorem jsf_at {fs : Nat} {lns ns : Nat → ByteArray} {J k : Nat} (h : fs ≤ k) : jsf fs lns ns J (k + 1) k = .int .i64 (flv lns (ns k) J) := by
  unfold jsf
  rw [if_pos ⟨h, by omega⟩]
theorem jsf_other {fs : Nat} {lns ns : Nat → ByteArray} {J k j : Nat} (h : j ≠ k) : jsf fs lns ns J (k + 1) j = jsf fs lns ns J k j := by
  unfold jsf
  by_cases c : fs ≤ j ∧ j < k
  · rw [if_pos c, if_pos ⟨c.1, by omega⟩]
  · rw [if_neg c, if_neg (fun x => c ⟨x.1, by omega⟩)]
theorem flv_none {lns : Nat → ByteArray} {s : ByteArray} {J : Nat} (h : flx lns s J = none) : flv lns s J = -1 := by unfold flv; rw [h]
theorem flv_some {lns : Nat → ByteArray} {s : ByteArray} {J j : Nat} (h : flx lns s J = some j) : flv lns s J = (j : Int) := by unfold flv; rw [h]
theorem cell_later {w w' : World} (hb : Below w.heap.size w w') {a : Addr} {v : Value} (hc : w.cell? a = some v) : w'.cell? a = some v := (hb.cell (World.block_lt_of_cell? w a hc)).trans hc
/-- What the premise leaves. -/
def PremQ (C : Prop) (f : Nat → Value) (n : Nat) (w : World) (e : Ending) (w' : World) : Prop :=
  ∃ b p, e = .returned (.tuple #[.bool b, p]) ∧ Below w.heap.size w w' ∧ (b = true → C ∧ ∃ JS, p = .slice (some ⟨JS, 0, none⟩) n n ∧ RowV 3 f w' JS n n)
def OkB (n0 : Nat) (first : Int) (n2 n3 n4 : Nat) (ns : Nat → ByteArray) (ps nu : Nat → Int) (gv pv bv : Int) (n8 n9 : Nat) (lns : Nat → ByteArray) (lN : Nat → Int) (rB rP : Bool) : Prop :=
  n2 ≤ 4096 ∧ n8 ≤ 4096 ∧ n3 = n2 ∧ n4 = n2 ∧ n9 = n8 ∧ 0 ≤ gv ∧ gv ≤ 4096 ∧ 0 ≤ pv ∧ pv ≤ 4096 ∧ 0 ≤ bv ∧ bv ≤ 4096 ∧
  0 ≤ first ∧ first ≤ (n2 : Int) ∧ ∀ i, first.toNat ≤ i → i < n2 → PBk (gv + pv) (nu i) (nAct (gv + pv) (nu i)) (ps i) n0 rB rP (flx lns (ns i) n8) lN

end Go.Proofs.YtiihgamhmflphaaFmt
