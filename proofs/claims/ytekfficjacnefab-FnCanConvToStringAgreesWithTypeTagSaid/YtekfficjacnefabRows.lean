/-
  No cell of these rows narrows 'for every input' (looked for: loops, veiled, ifaces, maps, wideKeys, modest, calm, conditions, laid).
  DERIVED. THE GIVEN ROWS OF THIS SEAT. 4 by the template 'for every input the law returns true; each argument reads behind the call as it read before'; 0 by the template 'total and deterministic' (their statements: YtekfficjacnefabTotals.lean).
  GIVEN WITH THE SEED: the statements are not yours to turn. If you find one false, say at which input.
  Laid BY PROGRAM, IN A SANDBOX (cutbox-rows.mjs): the forced cells as the released guide's own fill.sh prints them over the translation 1993c7ac8249aa20… (all of the seat's roots in one cut). By AI agents, Wed Nov 11 2026. No macro, syntax, notation, axiom, sorry.
-/
import Derived.Test.YtekfficjacnefabChecked
import GoSem.Claim
import GoSem.ClaimJoined
import GoSem.ClaimMapViews
import Derived.JoinedTies
import Derived.KernelRfl
namespace Go.Proofs.Ytekfficjacnefab
/- THE CELL 'sum', in the pinned program and in every row, IS THE sha256 OF THE DUMP (.gsa) THAT YtekfficjacnefabProg.lean LOADS. Nothing in Lean hashes anything: it is a label: what it is worth is what the hold of that sum in a sandbox is worth. -/
noncomputable def Try.pinned : Pinned := { name := "ytekfficjacnefab", sum := "1993c7ac8249aa20613f0393dbc8c4a566edb00a039249b859659b1a2caeea3f", checked := Try.checked }
namespace Rows
def none {H : Type} : Left H := { results := [], args := [] }

/-- 'n005_126.FnGetArgAOfComposedInstruction': WHATEVER THE INPUT: true; the input reads as it did. -/
def fnGetArgAOfComposedInstructionSpec : ChangeSpec := { name := "fnGetArgAOfComposedInstruction", fn := fun _ => fun
  | [d1, d2, d3] => { results := [.lit (.bool true)], args := [d1, d2, d3] }
  | _ => none }
def fnGetArgAOfComposedInstructionRow : OpenClaim := { program := "ytekfficjacnefab", sum := "1993c7ac8249aa20613f0393dbc8c4a566edb00a039249b859659b1a2caeea3f", func := "github.com/yuin/gopher-lua/n005_126.FnGetArgAOfComposedInstruction", spec := "fnGetArgAOfComposedInstruction", apart := false }
def FnGetArgAOfComposedInstructionSaid : Prop := fnGetArgAOfComposedInstructionRow.holds Try.pinned (OpenSpec.ofChange fnGetArgAOfComposedInstructionSpec)

/-- ITS FALSE NEIGHBOUR: 'it returns false'. Refute it at one input. -/
def fnGetArgAOfComposedInstructionWrong : ChangeSpec := { name := "fnGetArgAOfComposedInstruction", fn := fun _ => fun
  | [d1, d2, d3] => { results := [.lit (.bool false)], args := [d1, d2, d3] }
  | _ => none }
def FnGetArgAOfComposedInstructionWrongFalsely : Prop := fnGetArgAOfComposedInstructionRow.holds Try.pinned (OpenSpec.ofChange fnGetArgAOfComposedInstructionWrong)

/-- 'n005_126.FnSetOpCodeExact': WHATEVER THE INPUT: true; the input reads as it did. -/
def fnSetOpCodeExactSpec : ChangeSpec := { name := "fnSetOpCodeExact", fn := fun _ => fun
  | [d1, d2] => { results := [.lit (.bool true)], args := [d1, d2] }
  | _ => none }
def fnSetOpCodeExactRow : OpenClaim := { program := "ytekfficjacnefab", sum := "1993c7ac8249aa20613f0393dbc8c4a566edb00a039249b859659b1a2caeea3f", func := "github.com/yuin/gopher-lua/n005_126.FnSetOpCodeExact", spec := "fnSetOpCodeExact", apart := false }
def FnSetOpCodeExactSaid : Prop := fnSetOpCodeExactRow.holds Try.pinned (OpenSpec.ofChange fnSetOpCodeExactSpec)

/-- ITS FALSE NEIGHBOUR: 'it returns false'. Refute it at one input. -/
def fnSetOpCodeExactWrong : ChangeSpec := { name := "fnSetOpCodeExact", fn := fun _ => fun
  | [d1, d2] => { results := [.lit (.bool false)], args := [d1, d2] }
  | _ => none }
def FnSetOpCodeExactWrongFalsely : Prop := fnSetOpCodeExactRow.holds Try.pinned (OpenSpec.ofChange fnSetOpCodeExactWrong)

/-- 'n005_126.FnSetArgAExact': WHATEVER THE INPUT: true; the input reads as it did. -/
def fnSetArgAExactSpec : ChangeSpec := { name := "fnSetArgAExact", fn := fun _ => fun
  | [d1, d2] => { results := [.lit (.bool true)], args := [d1, d2] }
  | _ => none }
def fnSetArgAExactRow : OpenClaim := { program := "ytekfficjacnefab", sum := "1993c7ac8249aa20613f0393dbc8c4a566edb00a039249b859659b1a2caeea3f", func := "github.com/yuin/gopher-lua/n005_126.FnSetArgAExact", spec := "fnSetArgAExact", apart := false }
def FnSetArgAExactSaid : Prop := fnSetArgAExactRow.holds Try.pinned (OpenSpec.ofChange fnSetArgAExactSpec)

/-- ITS FALSE NEIGHBOUR: 'it returns false'. Refute it at one input. -/
def fnSetArgAExactWrong : ChangeSpec := { name := "fnSetArgAExact", fn := fun _ => fun
  | [d1, d2] => { results := [.lit (.bool false)], args := [d1, d2] }
  | _ => none }
def FnSetArgAExactWrongFalsely : Prop := fnSetArgAExactRow.holds Try.pinned (OpenSpec.ofChange fnSetArgAExactWrong)

/-- 'n005_114.FnCanConvToStringAgreesWithTypeTag': WHATEVER THE INPUT: true; the input reads as it did. -/
def fnCanConvToStringAgreesWithTypeTagSpec : ChangeSpec := { name := "fnCanConvToStringAgreesWithTypeTag", fn := fun _ => fun
  | [d1, d2, d3, d4] => { results := [.lit (.bool true)], args := [d1, d2, d3, d4] }
  | _ => none }
def fnCanConvToStringAgreesWithTypeTagRow : OpenClaim := { program := "ytekfficjacnefab", sum := "1993c7ac8249aa20613f0393dbc8c4a566edb00a039249b859659b1a2caeea3f", func := "github.com/yuin/gopher-lua/n005_114.FnCanConvToStringAgreesWithTypeTag", spec := "fnCanConvToStringAgreesWithTypeTag", apart := false }
def FnCanConvToStringAgreesWithTypeTagSaid : Prop := fnCanConvToStringAgreesWithTypeTagRow.holds Try.pinned (OpenSpec.ofChange fnCanConvToStringAgreesWithTypeTagSpec)

/-- ITS FALSE NEIGHBOUR: 'it returns false'. Refute it at one input. -/
def fnCanConvToStringAgreesWithTypeTagWrong : ChangeSpec := { name := "fnCanConvToStringAgreesWithTypeTag", fn := fun _ => fun
  | [d1, d2, d3, d4] => { results := [.lit (.bool false)], args := [d1, d2, d3, d4] }
  | _ => none }
def FnCanConvToStringAgreesWithTypeTagWrongFalsely : Prop := fnCanConvToStringAgreesWithTypeTagRow.holds Try.pinned (OpenSpec.ofChange fnCanConvToStringAgreesWithTypeTagWrong)

/- THE SECOND FORM. 'bulk': how many values and letters a reading holds, each counted each time it is reached (what is shared counts as often as it is met; a slice's spare places count too). A statement '..UptoSaid' is the law's where the arguments, and the package variables that the reading takes, are together of bulk at most 1048576: NARROWER than '..Said'. Prove '..Said' where nothing that the law and all that it calls make is longer than what came in: it says more and counts as full. Else prove '..UptoSaid'. A law counts once. -/
mutual
def uptoBulk {H : Type} : DataW H → Nat
  | .lit (.string bytes) => bytes.length + 1
  | .lit _ => 1
  | .nil => 1
  | .ptr d => uptoBulk d + 1
  | .slice elems spare => uptoBulkAll elems + uptoBulkAll spare + 1
  | .agg parts => uptoBulkAll parts + 1
  | .iface _ d => uptoBulk d + 1
  | .map entries => uptoBulkEntries entries + 1
  | .held _ => 1
def uptoBulkAll {H : Type} : List (DataW H) → Nat
  | [] => 0
  | d :: r => uptoBulk d + uptoBulkAll r
def uptoBulkEntries {H : Type} : List (Lit × DataW H) → Nat
  | [] => 0
  | x :: r => uptoBulkEntry x + uptoBulkEntries r
def uptoBulkEntry {H : Type} : Lit × DataW H → Nat
  | (.string bytes, d) => bytes.length + uptoBulk d + 1
  | (_, d) => uptoBulk d + 1
 end
def uptoSmall : (H : Type) → List (DataW H) → Bool := fun _ ds => decide (uptoBulkAll ds ≤ 1048576)
def OpenSpec.upto (s : _root_.Go.ChangeSpec) : _root_.Go.OpenSpec := { _root_.Go.OpenSpec.ofChange s with cond := some uptoSmall }

/-- 'n005_126.FnGetArgAOfComposedInstruction', WHERE WHAT IT READS IS OF BULK AT MOST 1048576: true; the input reads as it did. -/
def fnGetArgAOfComposedInstructionUptoRow : OpenClaim := { program := "ytekfficjacnefab", sum := "1993c7ac8249aa20613f0393dbc8c4a566edb00a039249b859659b1a2caeea3f", func := "github.com/yuin/gopher-lua/n005_126.FnGetArgAOfComposedInstruction", spec := "fnGetArgAOfComposedInstruction", apart := false, narrowed := true }
def FnGetArgAOfComposedInstructionUptoSaid : Prop := fnGetArgAOfComposedInstructionUptoRow.holds Try.pinned (OpenSpec.upto fnGetArgAOfComposedInstructionSpec)

/-- 'n005_126.FnSetOpCodeExact', WHERE WHAT IT READS IS OF BULK AT MOST 1048576: true; the input reads as it did. -/
def fnSetOpCodeExactUptoRow : OpenClaim := { program := "ytekfficjacnefab", sum := "1993c7ac8249aa20613f0393dbc8c4a566edb00a039249b859659b1a2caeea3f", func := "github.com/yuin/gopher-lua/n005_126.FnSetOpCodeExact", spec := "fnSetOpCodeExact", apart := false, narrowed := true }
def FnSetOpCodeExactUptoSaid : Prop := fnSetOpCodeExactUptoRow.holds Try.pinned (OpenSpec.upto fnSetOpCodeExactSpec)

/-- 'n005_126.FnSetArgAExact', WHERE WHAT IT READS IS OF BULK AT MOST 1048576: true; the input reads as it did. -/
def fnSetArgAExactUptoRow : OpenClaim := { program := "ytekfficjacnefab", sum := "1993c7ac8249aa20613f0393dbc8c4a566edb00a039249b859659b1a2caeea3f", func := "github.com/yuin/gopher-lua/n005_126.FnSetArgAExact", spec := "fnSetArgAExact", apart := false, narrowed := true }
def FnSetArgAExactUptoSaid : Prop := fnSetArgAExactUptoRow.holds Try.pinned (OpenSpec.upto fnSetArgAExactSpec)

/-- 'n005_114.FnCanConvToStringAgreesWithTypeTag', WHERE WHAT IT READS IS OF BULK AT MOST 1048576: true; the input reads as it did. -/
def fnCanConvToStringAgreesWithTypeTagUptoRow : OpenClaim := { program := "ytekfficjacnefab", sum := "1993c7ac8249aa20613f0393dbc8c4a566edb00a039249b859659b1a2caeea3f", func := "github.com/yuin/gopher-lua/n005_114.FnCanConvToStringAgreesWithTypeTag", spec := "fnCanConvToStringAgreesWithTypeTag", apart := false, narrowed := true }
def FnCanConvToStringAgreesWithTypeTagUptoSaid : Prop := fnCanConvToStringAgreesWithTypeTagUptoRow.holds Try.pinned (OpenSpec.upto fnCanConvToStringAgreesWithTypeTagSpec)

end Rows
end Go.Proofs.Ytekfficjacnefab
