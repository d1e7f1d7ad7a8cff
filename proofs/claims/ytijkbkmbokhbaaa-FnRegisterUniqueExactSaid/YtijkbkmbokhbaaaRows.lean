/-
  No cell of these rows narrows 'for every input' (looked for: loops, veiled, ifaces, maps, wideKeys, modest, calm, conditions, laid).
  DERIVED. THE GIVEN ROWS OF THIS SEAT. 8 by the template 'for every input the law returns true; each argument reads behind the call as it read before'; 0 by the template 'total and deterministic' (their statements: YtijkbkmbokhbaaaTotals.lean).
  GIVEN WITH THE SEED: the statements are not yours to turn. If you find one false, say at which input.
  Laid BY PROGRAM, IN A SANDBOX (cutbox-rows.mjs): the forced cells as the released guide's own fill.sh prints them over the translation adef40033c953ede… (all of the seat's roots in one cut). By AI agents, Wed Nov 11 2026. No macro, syntax, notation, axiom, sorry.
-/
import Derived.Test.YtijkbkmbokhbaaaChecked
import GoSem.Claim
import GoSem.ClaimJoined
import GoSem.ClaimMapViews
import Derived.JoinedTies
import Derived.KernelRfl
namespace Go.Proofs.Ytijkbkmbokhbaaa
/- THE CELL 'sum', in the pinned program and in every row, IS THE sha256 OF THE DUMP (.gsa) THAT YtijkbkmbokhbaaaProg.lean LOADS. Nothing in Lean hashes anything: it is a label: what it is worth is what the hold of that sum in a sandbox is worth. -/
noncomputable def Try.pinned : Pinned := { name := "ytijkbkmbokhbaaa", sum := "adef40033c953ede61084d61c3312f509cb9236f3e220c718eb0c4b0109129d4", checked := Try.checked }
namespace Rows
def none {H : Type} : Left H := { results := [], args := [] }

/-- 'n005_103.FnFindIsLastOccurrence': WHATEVER THE INPUT: true; the input reads as it did. -/
def fnFindIsLastOccurrenceSpec : ChangeSpec := { name := "fnFindIsLastOccurrence", fn := fun _ => fun
  | [d1, d2, d3] => { results := [.lit (.bool true)], args := [d1, d2, d3] }
  | _ => none }
def fnFindIsLastOccurrenceRow : OpenClaim := { program := "ytijkbkmbokhbaaa", sum := "adef40033c953ede61084d61c3312f509cb9236f3e220c718eb0c4b0109129d4", func := "github.com/yuin/gopher-lua/n005_103.FnFindIsLastOccurrence", spec := "fnFindIsLastOccurrence", apart := false }
def FnFindIsLastOccurrenceSaid : Prop := fnFindIsLastOccurrenceRow.holds Try.pinned (OpenSpec.ofChange fnFindIsLastOccurrenceSpec)

/-- ITS FALSE NEIGHBOUR: 'it returns false'. Refute it at one input. -/
def fnFindIsLastOccurrenceWrong : ChangeSpec := { name := "fnFindIsLastOccurrence", fn := fun _ => fun
  | [d1, d2, d3] => { results := [.lit (.bool false)], args := [d1, d2, d3] }
  | _ => none }
def FnFindIsLastOccurrenceWrongFalsely : Prop := fnFindIsLastOccurrenceRow.holds Try.pinned (OpenSpec.ofChange fnFindIsLastOccurrenceWrong)

/-- 'n005_103.FnFindNewestShadowsAndReadsOnly': WHATEVER THE INPUT: true; the input reads as it did. -/
def fnFindNewestShadowsAndReadsOnlySpec : ChangeSpec := { name := "fnFindNewestShadowsAndReadsOnly", fn := fun _ => fun
  | [d1, d2, d3] => { results := [.lit (.bool true)], args := [d1, d2, d3] }
  | _ => none }
def fnFindNewestShadowsAndReadsOnlyRow : OpenClaim := { program := "ytijkbkmbokhbaaa", sum := "adef40033c953ede61084d61c3312f509cb9236f3e220c718eb0c4b0109129d4", func := "github.com/yuin/gopher-lua/n005_103.FnFindNewestShadowsAndReadsOnly", spec := "fnFindNewestShadowsAndReadsOnly", apart := false }
def FnFindNewestShadowsAndReadsOnlySaid : Prop := fnFindNewestShadowsAndReadsOnlyRow.holds Try.pinned (OpenSpec.ofChange fnFindNewestShadowsAndReadsOnlySpec)

/-- ITS FALSE NEIGHBOUR: 'it returns false'. Refute it at one input. -/
def fnFindNewestShadowsAndReadsOnlyWrong : ChangeSpec := { name := "fnFindNewestShadowsAndReadsOnly", fn := fun _ => fun
  | [d1, d2, d3] => { results := [.lit (.bool false)], args := [d1, d2, d3] }
  | _ => none }
def FnFindNewestShadowsAndReadsOnlyWrongFalsely : Prop := fnFindNewestShadowsAndReadsOnlyRow.holds Try.pinned (OpenSpec.ofChange fnFindNewestShadowsAndReadsOnlyWrong)

/-- 'n005_103.FnLastIndexAdvancesByOneOnRegister': WHATEVER THE INPUT: true; the input reads as it did. -/
def fnLastIndexAdvancesByOneOnRegisterSpec : ChangeSpec := { name := "fnLastIndexAdvancesByOneOnRegister", fn := fun _ => fun
  | [d1, d2] => { results := [.lit (.bool true)], args := [d1, d2] }
  | _ => none }
def fnLastIndexAdvancesByOneOnRegisterRow : OpenClaim := { program := "ytijkbkmbokhbaaa", sum := "adef40033c953ede61084d61c3312f509cb9236f3e220c718eb0c4b0109129d4", func := "github.com/yuin/gopher-lua/n005_103.FnLastIndexAdvancesByOneOnRegister", spec := "fnLastIndexAdvancesByOneOnRegister", apart := false }
def FnLastIndexAdvancesByOneOnRegisterSaid : Prop := fnLastIndexAdvancesByOneOnRegisterRow.holds Try.pinned (OpenSpec.ofChange fnLastIndexAdvancesByOneOnRegisterSpec)

/-- ITS FALSE NEIGHBOUR: 'it returns false'. Refute it at one input. -/
def fnLastIndexAdvancesByOneOnRegisterWrong : ChangeSpec := { name := "fnLastIndexAdvancesByOneOnRegister", fn := fun _ => fun
  | [d1, d2] => { results := [.lit (.bool false)], args := [d1, d2] }
  | _ => none }
def FnLastIndexAdvancesByOneOnRegisterWrongFalsely : Prop := fnLastIndexAdvancesByOneOnRegisterRow.holds Try.pinned (OpenSpec.ofChange fnLastIndexAdvancesByOneOnRegisterWrong)

/-- 'n005_103.FnListEntriesAgreeWithFind': WHATEVER THE INPUT: true; the input reads as it did. -/
def fnListEntriesAgreeWithFindSpec : ChangeSpec := { name := "fnListEntriesAgreeWithFind", fn := fun _ => fun
  | [d1, d2] => { results := [.lit (.bool true)], args := [d1, d2] }
  | _ => none }
def fnListEntriesAgreeWithFindRow : OpenClaim := { program := "ytijkbkmbokhbaaa", sum := "adef40033c953ede61084d61c3312f509cb9236f3e220c718eb0c4b0109129d4", func := "github.com/yuin/gopher-lua/n005_103.FnListEntriesAgreeWithFind", spec := "fnListEntriesAgreeWithFind", apart := false }
def FnListEntriesAgreeWithFindSaid : Prop := fnListEntriesAgreeWithFindRow.holds Try.pinned (OpenSpec.ofChange fnListEntriesAgreeWithFindSpec)

/-- ITS FALSE NEIGHBOUR: 'it returns false'. Refute it at one input. -/
def fnListEntriesAgreeWithFindWrong : ChangeSpec := { name := "fnListEntriesAgreeWithFind", fn := fun _ => fun
  | [d1, d2] => { results := [.lit (.bool false)], args := [d1, d2] }
  | _ => none }
def FnListEntriesAgreeWithFindWrongFalsely : Prop := fnListEntriesAgreeWithFindRow.holds Try.pinned (OpenSpec.ofChange fnListEntriesAgreeWithFindWrong)

/-- 'n005_103.FnLastIndexCountsScript': WHATEVER THE INPUT: true; the input reads as it did. -/
def fnLastIndexCountsScriptSpec : ChangeSpec := { name := "fnLastIndexCountsScript", fn := fun _ => fun
  | [d1, d2, d3] => { results := [.lit (.bool true)], args := [d1, d2, d3] }
  | _ => none }
def fnLastIndexCountsScriptRow : OpenClaim := { program := "ytijkbkmbokhbaaa", sum := "adef40033c953ede61084d61c3312f509cb9236f3e220c718eb0c4b0109129d4", func := "github.com/yuin/gopher-lua/n005_103.FnLastIndexCountsScript", spec := "fnLastIndexCountsScript", apart := false }
def FnLastIndexCountsScriptSaid : Prop := fnLastIndexCountsScriptRow.holds Try.pinned (OpenSpec.ofChange fnLastIndexCountsScriptSpec)

/-- ITS FALSE NEIGHBOUR: 'it returns false'. Refute it at one input. -/
def fnLastIndexCountsScriptWrong : ChangeSpec := { name := "fnLastIndexCountsScript", fn := fun _ => fun
  | [d1, d2, d3] => { results := [.lit (.bool false)], args := [d1, d2, d3] }
  | _ => none }
def FnLastIndexCountsScriptWrongFalsely : Prop := fnLastIndexCountsScriptRow.holds Try.pinned (OpenSpec.ofChange fnLastIndexCountsScriptWrong)

/-- 'n005_103.FnListExactAfterRegisterScript': WHATEVER THE INPUT: true; the input reads as it did. -/
def fnListExactAfterRegisterScriptSpec : ChangeSpec := { name := "fnListExactAfterRegisterScript", fn := fun _ => fun
  | [d1, d2] => { results := [.lit (.bool true)], args := [d1, d2] }
  | _ => none }
def fnListExactAfterRegisterScriptRow : OpenClaim := { program := "ytijkbkmbokhbaaa", sum := "adef40033c953ede61084d61c3312f509cb9236f3e220c718eb0c4b0109129d4", func := "github.com/yuin/gopher-lua/n005_103.FnListExactAfterRegisterScript", spec := "fnListExactAfterRegisterScript", apart := false }
def FnListExactAfterRegisterScriptSaid : Prop := fnListExactAfterRegisterScriptRow.holds Try.pinned (OpenSpec.ofChange fnListExactAfterRegisterScriptSpec)

/-- ITS FALSE NEIGHBOUR: 'it returns false'. Refute it at one input. -/
def fnListExactAfterRegisterScriptWrong : ChangeSpec := { name := "fnListExactAfterRegisterScript", fn := fun _ => fun
  | [d1, d2] => { results := [.lit (.bool false)], args := [d1, d2] }
  | _ => none }
def FnListExactAfterRegisterScriptWrongFalsely : Prop := fnListExactAfterRegisterScriptRow.holds Try.pinned (OpenSpec.ofChange fnListExactAfterRegisterScriptWrong)

/-- 'n005_103.FnRegisterUniqueExact': WHATEVER THE INPUT: true; the input reads as it did. -/
def fnRegisterUniqueExactSpec : ChangeSpec := { name := "fnRegisterUniqueExact", fn := fun _ => fun
  | [d1, d2] => { results := [.lit (.bool true)], args := [d1, d2] }
  | _ => none }
def fnRegisterUniqueExactRow : OpenClaim := { program := "ytijkbkmbokhbaaa", sum := "adef40033c953ede61084d61c3312f509cb9236f3e220c718eb0c4b0109129d4", func := "github.com/yuin/gopher-lua/n005_103.FnRegisterUniqueExact", spec := "fnRegisterUniqueExact", apart := false }
def FnRegisterUniqueExactSaid : Prop := fnRegisterUniqueExactRow.holds Try.pinned (OpenSpec.ofChange fnRegisterUniqueExactSpec)

/-- ITS FALSE NEIGHBOUR: 'it returns false'. Refute it at one input. -/
def fnRegisterUniqueExactWrong : ChangeSpec := { name := "fnRegisterUniqueExact", fn := fun _ => fun
  | [d1, d2] => { results := [.lit (.bool false)], args := [d1, d2] }
  | _ => none }
def FnRegisterUniqueExactWrongFalsely : Prop := fnRegisterUniqueExactRow.holds Try.pinned (OpenSpec.ofChange fnRegisterUniqueExactWrong)

/-- 'n005_103.FnRegisterUniqueIdempotent': WHATEVER THE INPUT: true; the input reads as it did. -/
def fnRegisterUniqueIdempotentSpec : ChangeSpec := { name := "fnRegisterUniqueIdempotent", fn := fun _ => fun
  | [d1, d2, d3] => { results := [.lit (.bool true)], args := [d1, d2, d3] }
  | _ => none }
def fnRegisterUniqueIdempotentRow : OpenClaim := { program := "ytijkbkmbokhbaaa", sum := "adef40033c953ede61084d61c3312f509cb9236f3e220c718eb0c4b0109129d4", func := "github.com/yuin/gopher-lua/n005_103.FnRegisterUniqueIdempotent", spec := "fnRegisterUniqueIdempotent", apart := false }
def FnRegisterUniqueIdempotentSaid : Prop := fnRegisterUniqueIdempotentRow.holds Try.pinned (OpenSpec.ofChange fnRegisterUniqueIdempotentSpec)

/-- ITS FALSE NEIGHBOUR: 'it returns false'. Refute it at one input. -/
def fnRegisterUniqueIdempotentWrong : ChangeSpec := { name := "fnRegisterUniqueIdempotent", fn := fun _ => fun
  | [d1, d2, d3] => { results := [.lit (.bool false)], args := [d1, d2, d3] }
  | _ => none }
def FnRegisterUniqueIdempotentWrongFalsely : Prop := fnRegisterUniqueIdempotentRow.holds Try.pinned (OpenSpec.ofChange fnRegisterUniqueIdempotentWrong)

/- THE SECOND FORM. 'bulk': how many values and letters a reading holds, each counted each time it is reached (what is shared counts as often as it is met; a slice's spare places count too). A statement '..UptoSaid' is the law's where the arguments, and the package variables that the reading takes, are together of bulk at most 1048576: NARROWER than '..Said'. Prove '..Said' where nothing that the law and all that it calls make is longer than what came in: it says more and counts as full. Else prove '..UptoSaid'. A law counts once. -/
mutual
def uptoBulk {H : Type} : DataW H → Nat
  | .lit (.string bytes) => bytes.length + 1
  | .lit _ => 1
  | .nil => 1
  | .ptr d => uptoBulk d + 1
  | .slice elems spare => uptoBulkAll elems + uptoBulkAll spare + 1
  | .agg parts => uptoBulkAll parts + 1
  | .iface _ d => uptoBulk d + 1
  | .map entries => uptoBulkEntries entries + 1
  | .held _ => 1
def uptoBulkAll {H : Type} : List (DataW H) → Nat
  | [] => 0
  | d :: r => uptoBulk d + uptoBulkAll r
def uptoBulkEntries {H : Type} : List (Lit × DataW H) → Nat
  | [] => 0
  | x :: r => uptoBulkEntry x + uptoBulkEntries r
def uptoBulkEntry {H : Type} : Lit × DataW H → Nat
  | (.string bytes, d) => bytes.length + uptoBulk d + 1
  | (_, d) => uptoBulk d + 1
 end
def uptoSmall : (H : Type) → List (DataW H) → Bool := fun _ ds => decide (uptoBulkAll ds ≤ 1048576)
def OpenSpec.upto (s : _root_.Go.ChangeSpec) : _root_.Go.OpenSpec := { _root_.Go.OpenSpec.ofChange s with cond := some uptoSmall }

/-- 'n005_103.FnFindIsLastOccurrence', WHERE WHAT IT READS IS OF BULK AT MOST 1048576: true; the input reads as it did. -/
def fnFindIsLastOccurrenceUptoRow : OpenClaim := { program := "ytijkbkmbokhbaaa", sum := "adef40033c953ede61084d61c3312f509cb9236f3e220c718eb0c4b0109129d4", func := "github.com/yuin/gopher-lua/n005_103.FnFindIsLastOccurrence", spec := "fnFindIsLastOccurrence", apart := false, narrowed := true }
def FnFindIsLastOccurrenceUptoSaid : Prop := fnFindIsLastOccurrenceUptoRow.holds Try.pinned (OpenSpec.upto fnFindIsLastOccurrenceSpec)

/-- 'n005_103.FnFindNewestShadowsAndReadsOnly', WHERE WHAT IT READS IS OF BULK AT MOST 1048576: true; the input reads as it did. -/
def fnFindNewestShadowsAndReadsOnlyUptoRow : OpenClaim := { program := "ytijkbkmbokhbaaa", sum := "adef40033c953ede61084d61c3312f509cb9236f3e220c718eb0c4b0109129d4", func := "github.com/yuin/gopher-lua/n005_103.FnFindNewestShadowsAndReadsOnly", spec := "fnFindNewestShadowsAndReadsOnly", apart := false, narrowed := true }
def FnFindNewestShadowsAndReadsOnlyUptoSaid : Prop := fnFindNewestShadowsAndReadsOnlyUptoRow.holds Try.pinned (OpenSpec.upto fnFindNewestShadowsAndReadsOnlySpec)

/-- 'n005_103.FnLastIndexAdvancesByOneOnRegister', WHERE WHAT IT READS IS OF BULK AT MOST 1048576: true; the input reads as it did. -/
def fnLastIndexAdvancesByOneOnRegisterUptoRow : OpenClaim := { program := "ytijkbkmbokhbaaa", sum := "adef40033c953ede61084d61c3312f509cb9236f3e220c718eb0c4b0109129d4", func := "github.com/yuin/gopher-lua/n005_103.FnLastIndexAdvancesByOneOnRegister", spec := "fnLastIndexAdvancesByOneOnRegister", apart := false, narrowed := true }
def FnLastIndexAdvancesByOneOnRegisterUptoSaid : Prop := fnLastIndexAdvancesByOneOnRegisterUptoRow.holds Try.pinned (OpenSpec.upto fnLastIndexAdvancesByOneOnRegisterSpec)

/-- 'n005_103.FnListEntriesAgreeWithFind', WHERE WHAT IT READS IS OF BULK AT MOST 1048576: true; the input reads as it did. -/
def fnListEntriesAgreeWithFindUptoRow : OpenClaim := { program := "ytijkbkmbokhbaaa", sum := "adef40033c953ede61084d61c3312f509cb9236f3e220c718eb0c4b0109129d4", func := "github.com/yuin/gopher-lua/n005_103.FnListEntriesAgreeWithFind", spec := "fnListEntriesAgreeWithFind", apart := false, narrowed := true }
def FnListEntriesAgreeWithFindUptoSaid : Prop := fnListEntriesAgreeWithFindUptoRow.holds Try.pinned (OpenSpec.upto fnListEntriesAgreeWithFindSpec)

/-- 'n005_103.FnLastIndexCountsScript', WHERE WHAT IT READS IS OF BULK AT MOST 1048576: true; the input reads as it did. -/
def fnLastIndexCountsScriptUptoRow : OpenClaim := { program := "ytijkbkmbokhbaaa", sum := "adef40033c953ede61084d61c3312f509cb9236f3e220c718eb0c4b0109129d4", func := "github.com/yuin/gopher-lua/n005_103.FnLastIndexCountsScript", spec := "fnLastIndexCountsScript", apart := false, narrowed := true }
def FnLastIndexCountsScriptUptoSaid : Prop := fnLastIndexCountsScriptUptoRow.holds Try.pinned (OpenSpec.upto fnLastIndexCountsScriptSpec)

/-- 'n005_103.FnListExactAfterRegisterScript', WHERE WHAT IT READS IS OF BULK AT MOST 1048576: true; the input reads as it did. -/
def fnListExactAfterRegisterScriptUptoRow : OpenClaim := { program := "ytijkbkmbokhbaaa", sum := "adef40033c953ede61084d61c3312f509cb9236f3e220c718eb0c4b0109129d4", func := "github.com/yuin/gopher-lua/n005_103.FnListExactAfterRegisterScript", spec := "fnListExactAfterRegisterScript", apart := false, narrowed := true }
def FnListExactAfterRegisterScriptUptoSaid : Prop := fnListExactAfterRegisterScriptUptoRow.holds Try.pinned (OpenSpec.upto fnListExactAfterRegisterScriptSpec)

/-- 'n005_103.FnRegisterUniqueExact', WHERE WHAT IT READS IS OF BULK AT MOST 1048576: true; the input reads as it did. -/
def fnRegisterUniqueExactUptoRow : OpenClaim := { program := "ytijkbkmbokhbaaa", sum := "adef40033c953ede61084d61c3312f509cb9236f3e220c718eb0c4b0109129d4", func := "github.com/yuin/gopher-lua/n005_103.FnRegisterUniqueExact", spec := "fnRegisterUniqueExact", apart := false, narrowed := true }
def FnRegisterUniqueExactUptoSaid : Prop := fnRegisterUniqueExactUptoRow.holds Try.pinned (OpenSpec.upto fnRegisterUniqueExactSpec)

/-- 'n005_103.FnRegisterUniqueIdempotent', WHERE WHAT IT READS IS OF BULK AT MOST 1048576: true; the input reads as it did. -/
def fnRegisterUniqueIdempotentUptoRow : OpenClaim := { program := "ytijkbkmbokhbaaa", sum := "adef40033c953ede61084d61c3312f509cb9236f3e220c718eb0c4b0109129d4", func := "github.com/yuin/gopher-lua/n005_103.FnRegisterUniqueIdempotent", spec := "fnRegisterUniqueIdempotent", apart := false, narrowed := true }
def FnRegisterUniqueIdempotentUptoSaid : Prop := fnRegisterUniqueIdempotentUptoRow.holds Try.pinned (OpenSpec.upto fnRegisterUniqueIdempotentSpec)

end Rows
end Go.Proofs.Ytijkbkmbokhbaaa
