/-
  No cell of these rows narrows 'for every input' (looked for: loops, veiled, ifaces, maps, wideKeys, modest, calm, conditions, laid).
  DERIVED. THE GIVEN ROWS OF THIS SEAT. 7 by the template 'for every input the law returns true; each argument reads behind the call as it read before'; 0 by the template 'total and deterministic' (their statements: YtkmojdjnpiljaaaTotals.lean).
  GIVEN WITH THE SEED: the statements are not yours to turn. If you find one false, say at which input.
  Laid BY PROGRAM, IN A SANDBOX (cutbox-rows.mjs): the forced cells as the released guide's own fill.sh prints them over the translation 1778c9864542f1cb… (all of the seat's roots in one cut). By AI agents, Wed Nov 11 2026. No macro, syntax, notation, axiom, sorry.
-/
import Derived.Test.YtkmojdjnpiljaaaChecked
import GoSem.Claim
import GoSem.ClaimJoined
import GoSem.ClaimMapViews
import Derived.JoinedTies
import Derived.KernelRfl
namespace Go.Proofs.Ytkmojdjnpiljaaa
/- THE CELL 'sum', in the pinned program and in every row, IS THE sha256 OF THE DUMP (.gsa) THAT YtkmojdjnpiljaaaProg.lean LOADS. Nothing in Lean hashes anything: it is a label: what it is worth is what the hold of that sum in a sandbox is worth. -/
noncomputable def Try.pinned : Pinned := { name := "ytkmojdjnpiljaaa", sum := "1778c9864542f1cb1e75c9d6b6cebbaccb0a08c125cccab04d871bd89bb22082", checked := Try.checked }
namespace Rows
def none {H : Type} : Left H := { results := [], args := [] }

/-- 'n005_11.FnIsEmptyExactAfterSetSp': WHATEVER THE INPUT: true; the input reads as it did. -/
def fnIsEmptyExactAfterSetSpSpec : ChangeSpec := { name := "fnIsEmptyExactAfterSetSp", fn := fun _ => fun
  | [d1, d2] => { results := [.lit (.bool true)], args := [d1, d2] }
  | _ => none }
def fnIsEmptyExactAfterSetSpRow : OpenClaim := { program := "ytkmojdjnpiljaaa", sum := "1778c9864542f1cb1e75c9d6b6cebbaccb0a08c125cccab04d871bd89bb22082", func := "github.com/yuin/gopher-lua/n005_11.FnIsEmptyExactAfterSetSp", spec := "fnIsEmptyExactAfterSetSp", apart := false }
def FnIsEmptyExactAfterSetSpSaid : Prop := fnIsEmptyExactAfterSetSpRow.holds Try.pinned (OpenSpec.ofChange fnIsEmptyExactAfterSetSpSpec)

/-- ITS FALSE NEIGHBOUR: 'it returns false'. Refute it at one input. -/
def fnIsEmptyExactAfterSetSpWrong : ChangeSpec := { name := "fnIsEmptyExactAfterSetSp", fn := fun _ => fun
  | [d1, d2] => { results := [.lit (.bool false)], args := [d1, d2] }
  | _ => none }
def FnIsEmptyExactAfterSetSpWrongFalsely : Prop := fnIsEmptyExactAfterSetSpRow.holds Try.pinned (OpenSpec.ofChange fnIsEmptyExactAfterSetSpWrong)

/-- 'n005_11.FnIsFullExactAfterSetSp': WHATEVER THE INPUT: true; the input reads as it did. -/
def fnIsFullExactAfterSetSpSpec : ChangeSpec := { name := "fnIsFullExactAfterSetSp", fn := fun _ => fun
  | [d1, d2] => { results := [.lit (.bool true)], args := [d1, d2] }
  | _ => none }
def fnIsFullExactAfterSetSpRow : OpenClaim := { program := "ytkmojdjnpiljaaa", sum := "1778c9864542f1cb1e75c9d6b6cebbaccb0a08c125cccab04d871bd89bb22082", func := "github.com/yuin/gopher-lua/n005_11.FnIsFullExactAfterSetSp", spec := "fnIsFullExactAfterSetSp", apart := false }
def FnIsFullExactAfterSetSpSaid : Prop := fnIsFullExactAfterSetSpRow.holds Try.pinned (OpenSpec.ofChange fnIsFullExactAfterSetSpSpec)

/-- ITS FALSE NEIGHBOUR: 'it returns false'. Refute it at one input. -/
def fnIsFullExactAfterSetSpWrong : ChangeSpec := { name := "fnIsFullExactAfterSetSp", fn := fun _ => fun
  | [d1, d2] => { results := [.lit (.bool false)], args := [d1, d2] }
  | _ => none }
def FnIsFullExactAfterSetSpWrongFalsely : Prop := fnIsFullExactAfterSetSpRow.holds Try.pinned (OpenSpec.ofChange fnIsFullExactAfterSetSpWrong)

/-- 'n005_11.FnNewStackPushCountTable': WHATEVER THE INPUT: true; the input reads as it did. -/
def fnNewStackPushCountTableSpec : ChangeSpec := { name := "fnNewStackPushCountTable", fn := fun _ => fun
  | [d1, d2] => { results := [.lit (.bool true)], args := [d1, d2] }
  | _ => none }
def fnNewStackPushCountTableRow : OpenClaim := { program := "ytkmojdjnpiljaaa", sum := "1778c9864542f1cb1e75c9d6b6cebbaccb0a08c125cccab04d871bd89bb22082", func := "github.com/yuin/gopher-lua/n005_11.FnNewStackPushCountTable", spec := "fnNewStackPushCountTable", apart := false }
def FnNewStackPushCountTableSaid : Prop := fnNewStackPushCountTableRow.holds Try.pinned (OpenSpec.ofChange fnNewStackPushCountTableSpec)

/-- ITS FALSE NEIGHBOUR: 'it returns false'. Refute it at one input. -/
def fnNewStackPushCountTableWrong : ChangeSpec := { name := "fnNewStackPushCountTable", fn := fun _ => fun
  | [d1, d2] => { results := [.lit (.bool false)], args := [d1, d2] }
  | _ => none }
def FnNewStackPushCountTableWrongFalsely : Prop := fnNewStackPushCountTableRow.holds Try.pinned (OpenSpec.ofChange fnNewStackPushCountTableWrong)

/-- 'n005_11.FnClearEmptiesAnyState': WHATEVER THE INPUT: true; the input reads as it did. -/
def fnClearEmptiesAnyStateSpec : ChangeSpec := { name := "fnClearEmptiesAnyState", fn := fun _ => fun
  | [d1, d2, d3, d4] => { results := [.lit (.bool true)], args := [d1, d2, d3, d4] }
  | _ => none }
def fnClearEmptiesAnyStateRow : OpenClaim := { program := "ytkmojdjnpiljaaa", sum := "1778c9864542f1cb1e75c9d6b6cebbaccb0a08c125cccab04d871bd89bb22082", func := "github.com/yuin/gopher-lua/n005_11.FnClearEmptiesAnyState", spec := "fnClearEmptiesAnyState", apart := false }
def FnClearEmptiesAnyStateSaid : Prop := fnClearEmptiesAnyStateRow.holds Try.pinned (OpenSpec.ofChange fnClearEmptiesAnyStateSpec)

/-- ITS FALSE NEIGHBOUR: 'it returns false'. Refute it at one input. -/
def fnClearEmptiesAnyStateWrong : ChangeSpec := { name := "fnClearEmptiesAnyState", fn := fun _ => fun
  | [d1, d2, d3, d4] => { results := [.lit (.bool false)], args := [d1, d2, d3, d4] }
  | _ => none }
def FnClearEmptiesAnyStateWrongFalsely : Prop := fnClearEmptiesAnyStateRow.holds Try.pinned (OpenSpec.ofChange fnClearEmptiesAnyStateWrong)

/-- 'n005_11.FnIsEmptyAgreesWithLastOverScript': WHATEVER THE INPUT: true; the input reads as it did. -/
def fnIsEmptyAgreesWithLastOverScriptSpec : ChangeSpec := { name := "fnIsEmptyAgreesWithLastOverScript", fn := fun _ => fun
  | [d1, d2, d3] => { results := [.lit (.bool true)], args := [d1, d2, d3] }
  | _ => none }
def fnIsEmptyAgreesWithLastOverScriptRow : OpenClaim := { program := "ytkmojdjnpiljaaa", sum := "1778c9864542f1cb1e75c9d6b6cebbaccb0a08c125cccab04d871bd89bb22082", func := "github.com/yuin/gopher-lua/n005_11.FnIsEmptyAgreesWithLastOverScript", spec := "fnIsEmptyAgreesWithLastOverScript", apart := false }
def FnIsEmptyAgreesWithLastOverScriptSaid : Prop := fnIsEmptyAgreesWithLastOverScriptRow.holds Try.pinned (OpenSpec.ofChange fnIsEmptyAgreesWithLastOverScriptSpec)

/-- ITS FALSE NEIGHBOUR: 'it returns false'. Refute it at one input. -/
def fnIsEmptyAgreesWithLastOverScriptWrong : ChangeSpec := { name := "fnIsEmptyAgreesWithLastOverScript", fn := fun _ => fun
  | [d1, d2, d3] => { results := [.lit (.bool false)], args := [d1, d2, d3] }
  | _ => none }
def FnIsEmptyAgreesWithLastOverScriptWrongFalsely : Prop := fnIsEmptyAgreesWithLastOverScriptRow.holds Try.pinned (OpenSpec.ofChange fnIsEmptyAgreesWithLastOverScriptWrong)

/-- 'n005_11.FnNewStackHoldsExactlyNFrames': WHATEVER THE INPUT: true; the input reads as it did. -/
def fnNewStackHoldsExactlyNFramesSpec : ChangeSpec := { name := "fnNewStackHoldsExactlyNFrames", fn := fun _ => fun
  | [d] => { results := [.lit (.bool true)], args := [d] }
  | _ => none }
def fnNewStackHoldsExactlyNFramesRow : OpenClaim := { program := "ytkmojdjnpiljaaa", sum := "1778c9864542f1cb1e75c9d6b6cebbaccb0a08c125cccab04d871bd89bb22082", func := "github.com/yuin/gopher-lua/n005_11.FnNewStackHoldsExactlyNFrames", spec := "fnNewStackHoldsExactlyNFrames", apart := false }
def FnNewStackHoldsExactlyNFramesSaid : Prop := fnNewStackHoldsExactlyNFramesRow.holds Try.pinned (OpenSpec.ofChange fnNewStackHoldsExactlyNFramesSpec)

/-- ITS FALSE NEIGHBOUR: 'it returns false'. Refute it at one input. -/
def fnNewStackHoldsExactlyNFramesWrong : ChangeSpec := { name := "fnNewStackHoldsExactlyNFrames", fn := fun _ => fun
  | [d] => { results := [.lit (.bool false)], args := [d] }
  | _ => none }
def FnNewStackHoldsExactlyNFramesWrongFalsely : Prop := fnNewStackHoldsExactlyNFramesRow.holds Try.pinned (OpenSpec.ofChange fnNewStackHoldsExactlyNFramesWrong)

/-- 'n005_11.FnClearIdempotentAndRefill': WHATEVER THE INPUT: true; the input reads as it did. -/
def fnClearIdempotentAndRefillSpec : ChangeSpec := { name := "fnClearIdempotentAndRefill", fn := fun _ => fun
  | [d1, d2] => { results := [.lit (.bool true)], args := [d1, d2] }
  | _ => none }
def fnClearIdempotentAndRefillRow : OpenClaim := { program := "ytkmojdjnpiljaaa", sum := "1778c9864542f1cb1e75c9d6b6cebbaccb0a08c125cccab04d871bd89bb22082", func := "github.com/yuin/gopher-lua/n005_11.FnClearIdempotentAndRefill", spec := "fnClearIdempotentAndRefill", apart := false }
def FnClearIdempotentAndRefillSaid : Prop := fnClearIdempotentAndRefillRow.holds Try.pinned (OpenSpec.ofChange fnClearIdempotentAndRefillSpec)

/-- ITS FALSE NEIGHBOUR: 'it returns false'. Refute it at one input. -/
def fnClearIdempotentAndRefillWrong : ChangeSpec := { name := "fnClearIdempotentAndRefill", fn := fun _ => fun
  | [d1, d2] => { results := [.lit (.bool false)], args := [d1, d2] }
  | _ => none }
def FnClearIdempotentAndRefillWrongFalsely : Prop := fnClearIdempotentAndRefillRow.holds Try.pinned (OpenSpec.ofChange fnClearIdempotentAndRefillWrong)

/- THE SECOND FORM. 'bulk': how many values and letters a reading holds, each counted each time it is reached (what is shared counts as often as it is met; a slice's spare places count too). A statement '..UptoSaid' is the law's where the arguments, and the package variables that the reading takes, are together of bulk at most 1048576: NARROWER than '..Said'. Prove '..Said' where nothing that the law and all that it calls make is longer than what came in: it says more and counts as full. Else prove '..UptoSaid'. A law counts once. -/
mutual
def uptoBulk {H : Type} : DataW H → Nat
  | .lit (.string bytes) => bytes.length + 1
  | .lit _ => 1
  | .nil => 1
  | .ptr d => uptoBulk d + 1
  | .slice elems spare => uptoBulkAll elems + uptoBulkAll spare + 1
  | .agg parts => uptoBulkAll parts + 1
  | .iface _ d => uptoBulk d + 1
  | .map entries => uptoBulkEntries entries + 1
  | .held _ => 1
def uptoBulkAll {H : Type} : List (DataW H) → Nat
  | [] => 0
  | d :: r => uptoBulk d + uptoBulkAll r
def uptoBulkEntries {H : Type} : List (Lit × DataW H) → Nat
  | [] => 0
  | x :: r => uptoBulkEntry x + uptoBulkEntries r
def uptoBulkEntry {H : Type} : Lit × DataW H → Nat
  | (.string bytes, d) => bytes.length + uptoBulk d + 1
  | (_, d) => uptoBulk d + 1
 end
def uptoSmall : (H : Type) → List (DataW H) → Bool := fun _ ds => decide (uptoBulkAll ds ≤ 1048576)
def OpenSpec.upto (s : _root_.Go.ChangeSpec) : _root_.Go.OpenSpec := { _root_.Go.OpenSpec.ofChange s with cond := some uptoSmall }

/-- 'n005_11.FnIsEmptyExactAfterSetSp', WHERE WHAT IT READS IS OF BULK AT MOST 1048576: true; the input reads as it did. -/
def fnIsEmptyExactAfterSetSpUptoRow : OpenClaim := { program := "ytkmojdjnpiljaaa", sum := "1778c9864542f1cb1e75c9d6b6cebbaccb0a08c125cccab04d871bd89bb22082", func := "github.com/yuin/gopher-lua/n005_11.FnIsEmptyExactAfterSetSp", spec := "fnIsEmptyExactAfterSetSp", apart := false, narrowed := true }
def FnIsEmptyExactAfterSetSpUptoSaid : Prop := fnIsEmptyExactAfterSetSpUptoRow.holds Try.pinned (OpenSpec.upto fnIsEmptyExactAfterSetSpSpec)

/-- 'n005_11.FnIsFullExactAfterSetSp', WHERE WHAT IT READS IS OF BULK AT MOST 1048576: true; the input reads as it did. -/
def fnIsFullExactAfterSetSpUptoRow : OpenClaim := { program := "ytkmojdjnpiljaaa", sum := "1778c9864542f1cb1e75c9d6b6cebbaccb0a08c125cccab04d871bd89bb22082", func := "github.com/yuin/gopher-lua/n005_11.FnIsFullExactAfterSetSp", spec := "fnIsFullExactAfterSetSp", apart := false, narrowed := true }
def FnIsFullExactAfterSetSpUptoSaid : Prop := fnIsFullExactAfterSetSpUptoRow.holds Try.pinned (OpenSpec.upto fnIsFullExactAfterSetSpSpec)

/-- 'n005_11.FnNewStackPushCountTable', WHERE WHAT IT READS IS OF BULK AT MOST 1048576: true; the input reads as it did. -/
def fnNewStackPushCountTableUptoRow : OpenClaim := { program := "ytkmojdjnpiljaaa", sum := "1778c9864542f1cb1e75c9d6b6cebbaccb0a08c125cccab04d871bd89bb22082", func := "github.com/yuin/gopher-lua/n005_11.FnNewStackPushCountTable", spec := "fnNewStackPushCountTable", apart := false, narrowed := true }
def FnNewStackPushCountTableUptoSaid : Prop := fnNewStackPushCountTableUptoRow.holds Try.pinned (OpenSpec.upto fnNewStackPushCountTableSpec)

/-- 'n005_11.FnClearEmptiesAnyState', WHERE WHAT IT READS IS OF BULK AT MOST 1048576: true; the input reads as it did. -/
def fnClearEmptiesAnyStateUptoRow : OpenClaim := { program := "ytkmojdjnpiljaaa", sum := "1778c9864542f1cb1e75c9d6b6cebbaccb0a08c125cccab04d871bd89bb22082", func := "github.com/yuin/gopher-lua/n005_11.FnClearEmptiesAnyState", spec := "fnClearEmptiesAnyState", apart := false, narrowed := true }
def FnClearEmptiesAnyStateUptoSaid : Prop := fnClearEmptiesAnyStateUptoRow.holds Try.pinned (OpenSpec.upto fnClearEmptiesAnyStateSpec)

/-- 'n005_11.FnIsEmptyAgreesWithLastOverScript', WHERE WHAT IT READS IS OF BULK AT MOST 1048576: true; the input reads as it did. -/
def fnIsEmptyAgreesWithLastOverScriptUptoRow : OpenClaim := { program := "ytkmojdjnpiljaaa", sum := "1778c9864542f1cb1e75c9d6b6cebbaccb0a08c125cccab04d871bd89bb22082", func := "github.com/yuin/gopher-lua/n005_11.FnIsEmptyAgreesWithLastOverScript", spec := "fnIsEmptyAgreesWithLastOverScript", apart := false, narrowed := true }
def FnIsEmptyAgreesWithLastOverScriptUptoSaid : Prop := fnIsEmptyAgreesWithLastOverScriptUptoRow.holds Try.pinned (OpenSpec.upto fnIsEmptyAgreesWithLastOverScriptSpec)

/-- 'n005_11.FnNewStackHoldsExactlyNFrames', WHERE WHAT IT READS IS OF BULK AT MOST 1048576: true; the input reads as it did. -/
def fnNewStackHoldsExactlyNFramesUptoRow : OpenClaim := { program := "ytkmojdjnpiljaaa", sum := "1778c9864542f1cb1e75c9d6b6cebbaccb0a08c125cccab04d871bd89bb22082", func := "github.com/yuin/gopher-lua/n005_11.FnNewStackHoldsExactlyNFrames", spec := "fnNewStackHoldsExactlyNFrames", apart := false, narrowed := true }
def FnNewStackHoldsExactlyNFramesUptoSaid : Prop := fnNewStackHoldsExactlyNFramesUptoRow.holds Try.pinned (OpenSpec.upto fnNewStackHoldsExactlyNFramesSpec)

/-- 'n005_11.FnClearIdempotentAndRefill', WHERE WHAT IT READS IS OF BULK AT MOST 1048576: true; the input reads as it did. -/
def fnClearIdempotentAndRefillUptoRow : OpenClaim := { program := "ytkmojdjnpiljaaa", sum := "1778c9864542f1cb1e75c9d6b6cebbaccb0a08c125cccab04d871bd89bb22082", func := "github.com/yuin/gopher-lua/n005_11.FnClearIdempotentAndRefill", spec := "fnClearIdempotentAndRefill", apart := false, narrowed := true }
def FnClearIdempotentAndRefillUptoSaid : Prop := fnClearIdempotentAndRefillUptoRow.holds Try.pinned (OpenSpec.upto fnClearIdempotentAndRefillSpec)

end Rows
end Go.Proofs.Ytkmojdjnpiljaaa
