/-
  No cell of these rows narrows 'for every input' (looked for: loops, veiled, ifaces, maps, wideKeys, modest, calm, conditions, laid).
  DERIVED. THE GIVEN ROWS OF THIS SEAT. 4 by the template 'for every input the law returns true; each argument reads behind the call as it read before'; 0 by the template 'total and deterministic' (their statements: YtiihgamhmflphaaTotals.lean).
  GIVEN WITH THE SEED: the statements are not yours to turn. If you find one false, say at which input.
  Laid BY PROGRAM, IN A SANDBOX (cutbox-rows.mjs): the forced cells as the released guide's own fill.sh prints them over the translation b12c4543df110d94… (all of the seat's roots in one cut). By AI agents, Wed Nov 11 2026. No macro, syntax, notation, axiom, sorry.
-/
import Derived.Test.YtiihgamhmflphaaChecked
import GoSem.Claim
import GoSem.ClaimJoined
import GoSem.ClaimMapViews
import Derived.JoinedTies
import Derived.KernelRfl
namespace Go.Proofs.Ytiihgamhmflphaa
/- THE CELL 'sum', in the pinned program and in every row, IS THE sha256 OF THE DUMP (.gsa) THAT YtiihgamhmflphaaProg.lean LOADS. Nothing in Lean hashes anything: it is a label: what it is worth is what the hold of that sum in a sandbox is worth. -/
noncomputable def Try.pinned : Pinned := { name := "ytiihgamhmflphaa", sum := "b12c4543df110d947dd7afef84a882f72e192f7a270688814ae20f209088a486", checked := Try.checked }
namespace Rows
def none {H : Type} : Left H := { results := [], args := [] }

/-- 'n005_116.FnNewLabelCountsUpFromCounter': WHATEVER THE INPUT: true; the input reads as it did. -/
def fnNewLabelCountsUpFromCounterSpec : ChangeSpec := { name := "fnNewLabelCountsUpFromCounter", fn := fun _ => fun
  | [d1, d2] => { results := [.lit (.bool true)], args := [d1, d2] }
  | _ => none }
def fnNewLabelCountsUpFromCounterRow : OpenClaim := { program := "ytiihgamhmflphaa", sum := "b12c4543df110d947dd7afef84a882f72e192f7a270688814ae20f209088a486", func := "github.com/yuin/gopher-lua/n005_116.FnNewLabelCountsUpFromCounter", spec := "fnNewLabelCountsUpFromCounter", apart := false }
def FnNewLabelCountsUpFromCounterSaid : Prop := fnNewLabelCountsUpFromCounterRow.holds Try.pinned (OpenSpec.ofChange fnNewLabelCountsUpFromCounterSpec)

/-- ITS FALSE NEIGHBOUR: 'it returns false'. Refute it at one input. -/
def fnNewLabelCountsUpFromCounterWrong : ChangeSpec := { name := "fnNewLabelCountsUpFromCounter", fn := fun _ => fun
  | [d1, d2] => { results := [.lit (.bool false)], args := [d1, d2] }
  | _ => none }
def FnNewLabelCountsUpFromCounterWrongFalsely : Prop := fnNewLabelCountsUpFromCounterRow.holds Try.pinned (OpenSpec.ofChange fnNewLabelCountsUpFromCounterWrong)

/-- 'n005_116.FnNewLabelIsFreshAndSetLabelPcRemembers': WHATEVER THE INPUT: true; the input reads as it did. -/
def fnNewLabelIsFreshAndSetLabelPcRemembersSpec : ChangeSpec := { name := "fnNewLabelIsFreshAndSetLabelPcRemembers", fn := fun _ => fun
  | [d1, d2] => { results := [.lit (.bool true)], args := [d1, d2] }
  | _ => none }
def fnNewLabelIsFreshAndSetLabelPcRemembersRow : OpenClaim := { program := "ytiihgamhmflphaa", sum := "b12c4543df110d947dd7afef84a882f72e192f7a270688814ae20f209088a486", func := "github.com/yuin/gopher-lua/n005_116.FnNewLabelIsFreshAndSetLabelPcRemembers", spec := "fnNewLabelIsFreshAndSetLabelPcRemembers", apart := false }
def FnNewLabelIsFreshAndSetLabelPcRemembersSaid : Prop := fnNewLabelIsFreshAndSetLabelPcRemembersRow.holds Try.pinned (OpenSpec.ofChange fnNewLabelIsFreshAndSetLabelPcRemembersSpec)

/-- ITS FALSE NEIGHBOUR: 'it returns false'. Refute it at one input. -/
def fnNewLabelIsFreshAndSetLabelPcRemembersWrong : ChangeSpec := { name := "fnNewLabelIsFreshAndSetLabelPcRemembers", fn := fun _ => fun
  | [d1, d2] => { results := [.lit (.bool false)], args := [d1, d2] }
  | _ => none }
def FnNewLabelIsFreshAndSetLabelPcRemembersWrongFalsely : Prop := fnNewLabelIsFreshAndSetLabelPcRemembersRow.holds Try.pinned (OpenSpec.ofChange fnNewLabelIsFreshAndSetLabelPcRemembersWrong)

/-- 'n005_116.FnSetLabelPcLastWriteWins': WHATEVER THE INPUT: true; the input reads as it did. -/
def fnSetLabelPcLastWriteWinsSpec : ChangeSpec := { name := "fnSetLabelPcLastWriteWins", fn := fun _ => fun
  | [d1, d2, d3] => { results := [.lit (.bool true)], args := [d1, d2, d3] }
  | _ => none }
def fnSetLabelPcLastWriteWinsRow : OpenClaim := { program := "ytiihgamhmflphaa", sum := "b12c4543df110d947dd7afef84a882f72e192f7a270688814ae20f209088a486", func := "github.com/yuin/gopher-lua/n005_116.FnSetLabelPcLastWriteWins", spec := "fnSetLabelPcLastWriteWins", apart := false }
def FnSetLabelPcLastWriteWinsSaid : Prop := fnSetLabelPcLastWriteWinsRow.holds Try.pinned (OpenSpec.ofChange fnSetLabelPcLastWriteWinsSpec)

/-- ITS FALSE NEIGHBOUR: 'it returns false'. Refute it at one input. -/
def fnSetLabelPcLastWriteWinsWrong : ChangeSpec := { name := "fnSetLabelPcLastWriteWins", fn := fun _ => fun
  | [d1, d2, d3] => { results := [.lit (.bool false)], args := [d1, d2, d3] }
  | _ => none }
def FnSetLabelPcLastWriteWinsWrongFalsely : Prop := fnSetLabelPcLastWriteWinsRow.holds Try.pinned (OpenSpec.ofChange fnSetLabelPcLastWriteWinsWrong)

/-- 'n005_116.FnSetLabelPcDistinctLabelsCommute': WHATEVER THE INPUT: true; the input reads as it did. -/
def fnSetLabelPcDistinctLabelsCommuteSpec : ChangeSpec := { name := "fnSetLabelPcDistinctLabelsCommute", fn := fun _ => fun
  | [d1, d2] => { results := [.lit (.bool true)], args := [d1, d2] }
  | _ => none }
def fnSetLabelPcDistinctLabelsCommuteRow : OpenClaim := { program := "ytiihgamhmflphaa", sum := "b12c4543df110d947dd7afef84a882f72e192f7a270688814ae20f209088a486", func := "github.com/yuin/gopher-lua/n005_116.FnSetLabelPcDistinctLabelsCommute", spec := "fnSetLabelPcDistinctLabelsCommute", apart := false }
def FnSetLabelPcDistinctLabelsCommuteSaid : Prop := fnSetLabelPcDistinctLabelsCommuteRow.holds Try.pinned (OpenSpec.ofChange fnSetLabelPcDistinctLabelsCommuteSpec)

/-- ITS FALSE NEIGHBOUR: 'it returns false'. Refute it at one input. -/
def fnSetLabelPcDistinctLabelsCommuteWrong : ChangeSpec := { name := "fnSetLabelPcDistinctLabelsCommute", fn := fun _ => fun
  | [d1, d2] => { results := [.lit (.bool false)], args := [d1, d2] }
  | _ => none }
def FnSetLabelPcDistinctLabelsCommuteWrongFalsely : Prop := fnSetLabelPcDistinctLabelsCommuteRow.holds Try.pinned (OpenSpec.ofChange fnSetLabelPcDistinctLabelsCommuteWrong)

/- THE SECOND FORM. 'bulk': how many values and letters a reading holds, each counted each time it is reached (what is shared counts as often as it is met; a slice's spare places count too). A statement '..UptoSaid' is the law's where the arguments, and the package variables that the reading takes, are together of bulk at most 1048576: NARROWER than '..Said'. Prove '..Said' where nothing that the law and all that it calls make is longer than what came in: it says more and counts as full. Else prove '..UptoSaid'. A law counts once. -/
mutual
def uptoBulk {H : Type} : DataW H → Nat
  | .lit (.string bytes) => bytes.length + 1
  | .lit _ => 1
  | .nil => 1
  | .ptr d => uptoBulk d + 1
  | .slice elems spare => uptoBulkAll elems + uptoBulkAll spare + 1
  | .agg parts => uptoBulkAll parts + 1
  | .iface _ d => uptoBulk d + 1
  | .map entries => uptoBulkEntries entries + 1
  | .held _ => 1
def uptoBulkAll {H : Type} : List (DataW H) → Nat
  | [] => 0
  | d :: r => uptoBulk d + uptoBulkAll r
def uptoBulkEntries {H : Type} : List (Lit × DataW H) → Nat
  | [] => 0
  | x :: r => uptoBulkEntry x + uptoBulkEntries r
def uptoBulkEntry {H : Type} : Lit × DataW H → Nat
  | (.string bytes, d) => bytes.length + uptoBulk d + 1
  | (_, d) => uptoBulk d + 1
 end
def uptoSmall : (H : Type) → List (DataW H) → Bool := fun _ ds => decide (uptoBulkAll ds ≤ 1048576)
def OpenSpec.upto (s : _root_.Go.ChangeSpec) : _root_.Go.OpenSpec := { _root_.Go.OpenSpec.ofChange s with cond := some uptoSmall }

/-- 'n005_116.FnNewLabelCountsUpFromCounter', WHERE WHAT IT READS IS OF BULK AT MOST 1048576: true; the input reads as it did. -/
def fnNewLabelCountsUpFromCounterUptoRow : OpenClaim := { program := "ytiihgamhmflphaa", sum := "b12c4543df110d947dd7afef84a882f72e192f7a270688814ae20f209088a486", func := "github.com/yuin/gopher-lua/n005_116.FnNewLabelCountsUpFromCounter", spec := "fnNewLabelCountsUpFromCounter", apart := false, narrowed := true }
def FnNewLabelCountsUpFromCounterUptoSaid : Prop := fnNewLabelCountsUpFromCounterUptoRow.holds Try.pinned (OpenSpec.upto fnNewLabelCountsUpFromCounterSpec)

/-- 'n005_116.FnNewLabelIsFreshAndSetLabelPcRemembers', WHERE WHAT IT READS IS OF BULK AT MOST 1048576: true; the input reads as it did. -/
def fnNewLabelIsFreshAndSetLabelPcRemembersUptoRow : OpenClaim := { program := "ytiihgamhmflphaa", sum := "b12c4543df110d947dd7afef84a882f72e192f7a270688814ae20f209088a486", func := "github.com/yuin/gopher-lua/n005_116.FnNewLabelIsFreshAndSetLabelPcRemembers", spec := "fnNewLabelIsFreshAndSetLabelPcRemembers", apart := false, narrowed := true }
def FnNewLabelIsFreshAndSetLabelPcRemembersUptoSaid : Prop := fnNewLabelIsFreshAndSetLabelPcRemembersUptoRow.holds Try.pinned (OpenSpec.upto fnNewLabelIsFreshAndSetLabelPcRemembersSpec)

/-- 'n005_116.FnSetLabelPcLastWriteWins', WHERE WHAT IT READS IS OF BULK AT MOST 1048576: true; the input reads as it did. -/
def fnSetLabelPcLastWriteWinsUptoRow : OpenClaim := { program := "ytiihgamhmflphaa", sum := "b12c4543df110d947dd7afef84a882f72e192f7a270688814ae20f209088a486", func := "github.com/yuin/gopher-lua/n005_116.FnSetLabelPcLastWriteWins", spec := "fnSetLabelPcLastWriteWins", apart := false, narrowed := true }
def FnSetLabelPcLastWriteWinsUptoSaid : Prop := fnSetLabelPcLastWriteWinsUptoRow.holds Try.pinned (OpenSpec.upto fnSetLabelPcLastWriteWinsSpec)

/-- 'n005_116.FnSetLabelPcDistinctLabelsCommute', WHERE WHAT IT READS IS OF BULK AT MOST 1048576: true; the input reads as it did. -/
def fnSetLabelPcDistinctLabelsCommuteUptoRow : OpenClaim := { program := "ytiihgamhmflphaa", sum := "b12c4543df110d947dd7afef84a882f72e192f7a270688814ae20f209088a486", func := "github.com/yuin/gopher-lua/n005_116.FnSetLabelPcDistinctLabelsCommute", spec := "fnSetLabelPcDistinctLabelsCommute", apart := false, narrowed := true }
def FnSetLabelPcDistinctLabelsCommuteUptoSaid : Prop := fnSetLabelPcDistinctLabelsCommuteUptoRow.holds Try.pinned (OpenSpec.upto fnSetLabelPcDistinctLabelsCommuteSpec)

end Rows
end Go.Proofs.Ytiihgamhmflphaa
