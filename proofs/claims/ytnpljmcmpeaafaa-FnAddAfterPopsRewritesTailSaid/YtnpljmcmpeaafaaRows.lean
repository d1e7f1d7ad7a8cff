/-
  No cell of these rows narrows 'for every input' (looked for: loops, veiled, ifaces, maps, wideKeys, modest, calm, conditions, laid).
  DERIVED. THE GIVEN ROWS OF THIS SEAT. 8 by the template 'for every input the law returns true; each argument reads behind the call as it read before'; 0 by the template 'total and deterministic' (their statements: YtnpljmcmpeaafaaTotals.lean).
  GIVEN WITH THE SEED: the statements are not yours to turn. If you find one false, say at which input.
  Laid BY PROGRAM, IN A SANDBOX (cutbox-rows.mjs): the forced cells as the released guide's own fill.sh prints them over the translation 78c3356b356221ee… (all of the seat's roots in one cut). By AI agents, Wed Nov 11 2026. No macro, syntax, notation, axiom, sorry.
-/
import Derived.Test.YtnpljmcmpeaafaaChecked
import GoSem.Claim
import GoSem.ClaimJoined
import GoSem.ClaimMapViews
import Derived.JoinedTies
import Derived.KernelRfl
namespace Go.Proofs.Ytnpljmcmpeaafaa
/- THE CELL 'sum', in the pinned program and in every row, IS THE sha256 OF THE DUMP (.gsa) THAT YtnpljmcmpeaafaaProg.lean LOADS. Nothing in Lean hashes anything: it is a label: what it is worth is what the hold of that sum in a sandbox is worth. -/
noncomputable def Try.pinned : Pinned := { name := "ytnpljmcmpeaafaa", sum := "78c3356b356221ee19893dcc5d5929b18363574f6c7b41ba60ab765b92f92165", checked := Try.checked }
namespace Rows
def none {H : Type} : Left H := { results := [], args := [] }

/-- 'n005_106.FnAddOverwritesOrAppendsAtPC': WHATEVER THE INPUT: true; the input reads as it did. -/
def fnAddOverwritesOrAppendsAtPCSpec : ChangeSpec := { name := "fnAddOverwritesOrAppendsAtPC", fn := fun _ => fun
  | [d1, d2, d3, d4, d5] => { results := [.lit (.bool true)], args := [d1, d2, d3, d4, d5] }
  | _ => none }
def fnAddOverwritesOrAppendsAtPCRow : OpenClaim := { program := "ytnpljmcmpeaafaa", sum := "78c3356b356221ee19893dcc5d5929b18363574f6c7b41ba60ab765b92f92165", func := "github.com/yuin/gopher-lua/n005_106.FnAddOverwritesOrAppendsAtPC", spec := "fnAddOverwritesOrAppendsAtPC", apart := false }
def FnAddOverwritesOrAppendsAtPCSaid : Prop := fnAddOverwritesOrAppendsAtPCRow.holds Try.pinned (OpenSpec.ofChange fnAddOverwritesOrAppendsAtPCSpec)

/-- ITS FALSE NEIGHBOUR: 'it returns false'. Refute it at one input. -/
def fnAddOverwritesOrAppendsAtPCWrong : ChangeSpec := { name := "fnAddOverwritesOrAppendsAtPC", fn := fun _ => fun
  | [d1, d2, d3, d4, d5] => { results := [.lit (.bool false)], args := [d1, d2, d3, d4, d5] }
  | _ => none }
def FnAddOverwritesOrAppendsAtPCWrongFalsely : Prop := fnAddOverwritesOrAppendsAtPCRow.holds Try.pinned (OpenSpec.ofChange fnAddOverwritesOrAppendsAtPCWrong)

/-- 'n005_106.FnAddABxAgreesWithAddABCSplit': WHATEVER THE INPUT: true; the input reads as it did. -/
def fnAddABxAgreesWithAddABCSplitSpec : ChangeSpec := { name := "fnAddABxAgreesWithAddABCSplit", fn := fun _ => fun
  | [d1, d2, d3, d4] => { results := [.lit (.bool true)], args := [d1, d2, d3, d4] }
  | _ => none }
def fnAddABxAgreesWithAddABCSplitRow : OpenClaim := { program := "ytnpljmcmpeaafaa", sum := "78c3356b356221ee19893dcc5d5929b18363574f6c7b41ba60ab765b92f92165", func := "github.com/yuin/gopher-lua/n005_106.FnAddABxAgreesWithAddABCSplit", spec := "fnAddABxAgreesWithAddABCSplit", apart := false }
def FnAddABxAgreesWithAddABCSplitSaid : Prop := fnAddABxAgreesWithAddABCSplitRow.holds Try.pinned (OpenSpec.ofChange fnAddABxAgreesWithAddABCSplitSpec)

/-- ITS FALSE NEIGHBOUR: 'it returns false'. Refute it at one input. -/
def fnAddABxAgreesWithAddABCSplitWrong : ChangeSpec := { name := "fnAddABxAgreesWithAddABCSplit", fn := fun _ => fun
  | [d1, d2, d3, d4] => { results := [.lit (.bool false)], args := [d1, d2, d3, d4] }
  | _ => none }
def FnAddABxAgreesWithAddABCSplitWrongFalsely : Prop := fnAddABxAgreesWithAddABCSplitRow.holds Try.pinned (OpenSpec.ofChange fnAddABxAgreesWithAddABCSplitWrong)

/-- 'n005_106.FnAddASbxAgreesWithAddABxAndSetSbx': WHATEVER THE INPUT: true; the input reads as it did. -/
def fnAddASbxAgreesWithAddABxAndSetSbxSpec : ChangeSpec := { name := "fnAddASbxAgreesWithAddABxAndSetSbx", fn := fun _ => fun
  | [d1, d2, d3, d4, d5] => { results := [.lit (.bool true)], args := [d1, d2, d3, d4, d5] }
  | _ => none }
def fnAddASbxAgreesWithAddABxAndSetSbxRow : OpenClaim := { program := "ytnpljmcmpeaafaa", sum := "78c3356b356221ee19893dcc5d5929b18363574f6c7b41ba60ab765b92f92165", func := "github.com/yuin/gopher-lua/n005_106.FnAddASbxAgreesWithAddABxAndSetSbx", spec := "fnAddASbxAgreesWithAddABxAndSetSbx", apart := false }
def FnAddASbxAgreesWithAddABxAndSetSbxSaid : Prop := fnAddASbxAgreesWithAddABxAndSetSbxRow.holds Try.pinned (OpenSpec.ofChange fnAddASbxAgreesWithAddABxAndSetSbxSpec)

/-- ITS FALSE NEIGHBOUR: 'it returns false'. Refute it at one input. -/
def fnAddASbxAgreesWithAddABxAndSetSbxWrong : ChangeSpec := { name := "fnAddASbxAgreesWithAddABxAndSetSbx", fn := fun _ => fun
  | [d1, d2, d3, d4, d5] => { results := [.lit (.bool false)], args := [d1, d2, d3, d4, d5] }
  | _ => none }
def FnAddASbxAgreesWithAddABxAndSetSbxWrongFalsely : Prop := fnAddASbxAgreesWithAddABxAndSetSbxRow.holds Try.pinned (OpenSpec.ofChange fnAddASbxAgreesWithAddABxAndSetSbxWrong)

/-- 'n005_106.FnAddABCFieldsIndependentUnderSetters': WHATEVER THE INPUT: true; the input reads as it did. -/
def fnAddABCFieldsIndependentUnderSettersSpec : ChangeSpec := { name := "fnAddABCFieldsIndependentUnderSetters", fn := fun _ => fun
  | [d1, d2, d3, d4, d5, d6, d7, d8, d9] => { results := [.lit (.bool true)], args := [d1, d2, d3, d4, d5, d6, d7, d8, d9] }
  | _ => none }
def fnAddABCFieldsIndependentUnderSettersRow : OpenClaim := { program := "ytnpljmcmpeaafaa", sum := "78c3356b356221ee19893dcc5d5929b18363574f6c7b41ba60ab765b92f92165", func := "github.com/yuin/gopher-lua/n005_106.FnAddABCFieldsIndependentUnderSetters", spec := "fnAddABCFieldsIndependentUnderSetters", apart := false }
def FnAddABCFieldsIndependentUnderSettersSaid : Prop := fnAddABCFieldsIndependentUnderSettersRow.holds Try.pinned (OpenSpec.ofChange fnAddABCFieldsIndependentUnderSettersSpec)

/-- ITS FALSE NEIGHBOUR: 'it returns false'. Refute it at one input. -/
def fnAddABCFieldsIndependentUnderSettersWrong : ChangeSpec := { name := "fnAddABCFieldsIndependentUnderSetters", fn := fun _ => fun
  | [d1, d2, d3, d4, d5, d6, d7, d8, d9] => { results := [.lit (.bool false)], args := [d1, d2, d3, d4, d5, d6, d7, d8, d9] }
  | _ => none }
def FnAddABCFieldsIndependentUnderSettersWrongFalsely : Prop := fnAddABCFieldsIndependentUnderSettersRow.holds Try.pinned (OpenSpec.ofChange fnAddABCFieldsIndependentUnderSettersWrong)

/-- 'n005_106.FnAddABCIsAddOfPackedFields': WHATEVER THE INPUT: true; the input reads as it did. -/
def fnAddABCIsAddOfPackedFieldsSpec : ChangeSpec := { name := "fnAddABCIsAddOfPackedFields", fn := fun _ => fun
  | [d1, d2, d3, d4, d5, d6, d7, d8] => { results := [.lit (.bool true)], args := [d1, d2, d3, d4, d5, d6, d7, d8] }
  | _ => none }
def fnAddABCIsAddOfPackedFieldsRow : OpenClaim := { program := "ytnpljmcmpeaafaa", sum := "78c3356b356221ee19893dcc5d5929b18363574f6c7b41ba60ab765b92f92165", func := "github.com/yuin/gopher-lua/n005_106.FnAddABCIsAddOfPackedFields", spec := "fnAddABCIsAddOfPackedFields", apart := false }
def FnAddABCIsAddOfPackedFieldsSaid : Prop := fnAddABCIsAddOfPackedFieldsRow.holds Try.pinned (OpenSpec.ofChange fnAddABCIsAddOfPackedFieldsSpec)

/-- ITS FALSE NEIGHBOUR: 'it returns false'. Refute it at one input. -/
def fnAddABCIsAddOfPackedFieldsWrong : ChangeSpec := { name := "fnAddABCIsAddOfPackedFields", fn := fun _ => fun
  | [d1, d2, d3, d4, d5, d6, d7, d8] => { results := [.lit (.bool false)], args := [d1, d2, d3, d4, d5, d6, d7, d8] }
  | _ => none }
def FnAddABCIsAddOfPackedFieldsWrongFalsely : Prop := fnAddABCIsAddOfPackedFieldsRow.holds Try.pinned (OpenSpec.ofChange fnAddABCIsAddOfPackedFieldsWrong)

/-- 'n005_106.FnAddABxIsAddOfPackedFields': WHATEVER THE INPUT: true; the input reads as it did. -/
def fnAddABxIsAddOfPackedFieldsSpec : ChangeSpec := { name := "fnAddABxIsAddOfPackedFields", fn := fun _ => fun
  | [d1, d2, d3, d4, d5, d6, d7] => { results := [.lit (.bool true)], args := [d1, d2, d3, d4, d5, d6, d7] }
  | _ => none }
def fnAddABxIsAddOfPackedFieldsRow : OpenClaim := { program := "ytnpljmcmpeaafaa", sum := "78c3356b356221ee19893dcc5d5929b18363574f6c7b41ba60ab765b92f92165", func := "github.com/yuin/gopher-lua/n005_106.FnAddABxIsAddOfPackedFields", spec := "fnAddABxIsAddOfPackedFields", apart := false }
def FnAddABxIsAddOfPackedFieldsSaid : Prop := fnAddABxIsAddOfPackedFieldsRow.holds Try.pinned (OpenSpec.ofChange fnAddABxIsAddOfPackedFieldsSpec)

/-- ITS FALSE NEIGHBOUR: 'it returns false'. Refute it at one input. -/
def fnAddABxIsAddOfPackedFieldsWrong : ChangeSpec := { name := "fnAddABxIsAddOfPackedFields", fn := fun _ => fun
  | [d1, d2, d3, d4, d5, d6, d7] => { results := [.lit (.bool false)], args := [d1, d2, d3, d4, d5, d6, d7] }
  | _ => none }
def FnAddABxIsAddOfPackedFieldsWrongFalsely : Prop := fnAddABxIsAddOfPackedFieldsRow.holds Try.pinned (OpenSpec.ofChange fnAddABxIsAddOfPackedFieldsWrong)

/-- 'n005_106.FnAddASbxIsAddOfBiasedPayload': WHATEVER THE INPUT: true; the input reads as it did. -/
def fnAddASbxIsAddOfBiasedPayloadSpec : ChangeSpec := { name := "fnAddASbxIsAddOfBiasedPayload", fn := fun _ => fun
  | [d1, d2, d3, d4, d5, d6, d7] => { results := [.lit (.bool true)], args := [d1, d2, d3, d4, d5, d6, d7] }
  | _ => none }
def fnAddASbxIsAddOfBiasedPayloadRow : OpenClaim := { program := "ytnpljmcmpeaafaa", sum := "78c3356b356221ee19893dcc5d5929b18363574f6c7b41ba60ab765b92f92165", func := "github.com/yuin/gopher-lua/n005_106.FnAddASbxIsAddOfBiasedPayload", spec := "fnAddASbxIsAddOfBiasedPayload", apart := false }
def FnAddASbxIsAddOfBiasedPayloadSaid : Prop := fnAddASbxIsAddOfBiasedPayloadRow.holds Try.pinned (OpenSpec.ofChange fnAddASbxIsAddOfBiasedPayloadSpec)

/-- ITS FALSE NEIGHBOUR: 'it returns false'. Refute it at one input. -/
def fnAddASbxIsAddOfBiasedPayloadWrong : ChangeSpec := { name := "fnAddASbxIsAddOfBiasedPayload", fn := fun _ => fun
  | [d1, d2, d3, d4, d5, d6, d7] => { results := [.lit (.bool false)], args := [d1, d2, d3, d4, d5, d6, d7] }
  | _ => none }
def FnAddASbxIsAddOfBiasedPayloadWrongFalsely : Prop := fnAddASbxIsAddOfBiasedPayloadRow.holds Try.pinned (OpenSpec.ofChange fnAddASbxIsAddOfBiasedPayloadWrong)

/-- 'n005_106.FnAddAfterPopsRewritesTail': WHATEVER THE INPUT: true; the input reads as it did. -/
def fnAddAfterPopsRewritesTailSpec : ChangeSpec := { name := "fnAddAfterPopsRewritesTail", fn := fun _ => fun
  | [d1, d2, d3, d4, d5] => { results := [.lit (.bool true)], args := [d1, d2, d3, d4, d5] }
  | _ => none }
def fnAddAfterPopsRewritesTailRow : OpenClaim := { program := "ytnpljmcmpeaafaa", sum := "78c3356b356221ee19893dcc5d5929b18363574f6c7b41ba60ab765b92f92165", func := "github.com/yuin/gopher-lua/n005_106.FnAddAfterPopsRewritesTail", spec := "fnAddAfterPopsRewritesTail", apart := false }
def FnAddAfterPopsRewritesTailSaid : Prop := fnAddAfterPopsRewritesTailRow.holds Try.pinned (OpenSpec.ofChange fnAddAfterPopsRewritesTailSpec)

/-- ITS FALSE NEIGHBOUR: 'it returns false'. Refute it at one input. -/
def fnAddAfterPopsRewritesTailWrong : ChangeSpec := { name := "fnAddAfterPopsRewritesTail", fn := fun _ => fun
  | [d1, d2, d3, d4, d5] => { results := [.lit (.bool false)], args := [d1, d2, d3, d4, d5] }
  | _ => none }
def FnAddAfterPopsRewritesTailWrongFalsely : Prop := fnAddAfterPopsRewritesTailRow.holds Try.pinned (OpenSpec.ofChange fnAddAfterPopsRewritesTailWrong)

/- THE SECOND FORM. 'bulk': how many values and letters a reading holds, each counted each time it is reached (what is shared counts as often as it is met; a slice's spare places count too). A statement '..UptoSaid' is the law's where the arguments, and the package variables that the reading takes, are together of bulk at most 1048576: NARROWER than '..Said'. Prove '..Said' where nothing that the law and all that it calls make is longer than what came in: it says more and counts as full. Else prove '..UptoSaid'. A law counts once. -/
mutual
def uptoBulk {H : Type} : DataW H → Nat
  | .lit (.string bytes) => bytes.length + 1
  | .lit _ => 1
  | .nil => 1
  | .ptr d => uptoBulk d + 1
  | .slice elems spare => uptoBulkAll elems + uptoBulkAll spare + 1
  | .agg parts => uptoBulkAll parts + 1
  | .iface _ d => uptoBulk d + 1
  | .map entries => uptoBulkEntries entries + 1
  | .held _ => 1
def uptoBulkAll {H : Type} : List (DataW H) → Nat
  | [] => 0
  | d :: r => uptoBulk d + uptoBulkAll r
def uptoBulkEntries {H : Type} : List (Lit × DataW H) → Nat
  | [] => 0
  | x :: r => uptoBulkEntry x + uptoBulkEntries r
def uptoBulkEntry {H : Type} : Lit × DataW H → Nat
  | (.string bytes, d) => bytes.length + uptoBulk d + 1
  | (_, d) => uptoBulk d + 1
 end
def uptoSmall : (H : Type) → List (DataW H) → Bool := fun _ ds => decide (uptoBulkAll ds ≤ 1048576)
def OpenSpec.upto (s : _root_.Go.ChangeSpec) : _root_.Go.OpenSpec := { _root_.Go.OpenSpec.ofChange s with cond := some uptoSmall }

/-- 'n005_106.FnAddOverwritesOrAppendsAtPC', WHERE WHAT IT READS IS OF BULK AT MOST 1048576: true; the input reads as it did. -/
def fnAddOverwritesOrAppendsAtPCUptoRow : OpenClaim := { program := "ytnpljmcmpeaafaa", sum := "78c3356b356221ee19893dcc5d5929b18363574f6c7b41ba60ab765b92f92165", func := "github.com/yuin/gopher-lua/n005_106.FnAddOverwritesOrAppendsAtPC", spec := "fnAddOverwritesOrAppendsAtPC", apart := false, narrowed := true }
def FnAddOverwritesOrAppendsAtPCUptoSaid : Prop := fnAddOverwritesOrAppendsAtPCUptoRow.holds Try.pinned (OpenSpec.upto fnAddOverwritesOrAppendsAtPCSpec)

/-- 'n005_106.FnAddABxAgreesWithAddABCSplit', WHERE WHAT IT READS IS OF BULK AT MOST 1048576: true; the input reads as it did. -/
def fnAddABxAgreesWithAddABCSplitUptoRow : OpenClaim := { program := "ytnpljmcmpeaafaa", sum := "78c3356b356221ee19893dcc5d5929b18363574f6c7b41ba60ab765b92f92165", func := "github.com/yuin/gopher-lua/n005_106.FnAddABxAgreesWithAddABCSplit", spec := "fnAddABxAgreesWithAddABCSplit", apart := false, narrowed := true }
def FnAddABxAgreesWithAddABCSplitUptoSaid : Prop := fnAddABxAgreesWithAddABCSplitUptoRow.holds Try.pinned (OpenSpec.upto fnAddABxAgreesWithAddABCSplitSpec)

/-- 'n005_106.FnAddASbxAgreesWithAddABxAndSetSbx', WHERE WHAT IT READS IS OF BULK AT MOST 1048576: true; the input reads as it did. -/
def fnAddASbxAgreesWithAddABxAndSetSbxUptoRow : OpenClaim := { program := "ytnpljmcmpeaafaa", sum := "78c3356b356221ee19893dcc5d5929b18363574f6c7b41ba60ab765b92f92165", func := "github.com/yuin/gopher-lua/n005_106.FnAddASbxAgreesWithAddABxAndSetSbx", spec := "fnAddASbxAgreesWithAddABxAndSetSbx", apart := false, narrowed := true }
def FnAddASbxAgreesWithAddABxAndSetSbxUptoSaid : Prop := fnAddASbxAgreesWithAddABxAndSetSbxUptoRow.holds Try.pinned (OpenSpec.upto fnAddASbxAgreesWithAddABxAndSetSbxSpec)

/-- 'n005_106.FnAddABCFieldsIndependentUnderSetters', WHERE WHAT IT READS IS OF BULK AT MOST 1048576: true; the input reads as it did. -/
def fnAddABCFieldsIndependentUnderSettersUptoRow : OpenClaim := { program := "ytnpljmcmpeaafaa", sum := "78c3356b356221ee19893dcc5d5929b18363574f6c7b41ba60ab765b92f92165", func := "github.com/yuin/gopher-lua/n005_106.FnAddABCFieldsIndependentUnderSetters", spec := "fnAddABCFieldsIndependentUnderSetters", apart := false, narrowed := true }
def FnAddABCFieldsIndependentUnderSettersUptoSaid : Prop := fnAddABCFieldsIndependentUnderSettersUptoRow.holds Try.pinned (OpenSpec.upto fnAddABCFieldsIndependentUnderSettersSpec)

/-- 'n005_106.FnAddABCIsAddOfPackedFields', WHERE WHAT IT READS IS OF BULK AT MOST 1048576: true; the input reads as it did. -/
def fnAddABCIsAddOfPackedFieldsUptoRow : OpenClaim := { program := "ytnpljmcmpeaafaa", sum := "78c3356b356221ee19893dcc5d5929b18363574f6c7b41ba60ab765b92f92165", func := "github.com/yuin/gopher-lua/n005_106.FnAddABCIsAddOfPackedFields", spec := "fnAddABCIsAddOfPackedFields", apart := false, narrowed := true }
def FnAddABCIsAddOfPackedFieldsUptoSaid : Prop := fnAddABCIsAddOfPackedFieldsUptoRow.holds Try.pinned (OpenSpec.upto fnAddABCIsAddOfPackedFieldsSpec)

/-- 'n005_106.FnAddABxIsAddOfPackedFields', WHERE WHAT IT READS IS OF BULK AT MOST 1048576: true; the input reads as it did. -/
def fnAddABxIsAddOfPackedFieldsUptoRow : OpenClaim := { program := "ytnpljmcmpeaafaa", sum := "78c3356b356221ee19893dcc5d5929b18363574f6c7b41ba60ab765b92f92165", func := "github.com/yuin/gopher-lua/n005_106.FnAddABxIsAddOfPackedFields", spec := "fnAddABxIsAddOfPackedFields", apart := false, narrowed := true }
def FnAddABxIsAddOfPackedFieldsUptoSaid : Prop := fnAddABxIsAddOfPackedFieldsUptoRow.holds Try.pinned (OpenSpec.upto fnAddABxIsAddOfPackedFieldsSpec)

/-- 'n005_106.FnAddASbxIsAddOfBiasedPayload', WHERE WHAT IT READS IS OF BULK AT MOST 1048576: true; the input reads as it did. -/
def fnAddASbxIsAddOfBiasedPayloadUptoRow : OpenClaim := { program := "ytnpljmcmpeaafaa", sum := "78c3356b356221ee19893dcc5d5929b18363574f6c7b41ba60ab765b92f92165", func := "github.com/yuin/gopher-lua/n005_106.FnAddASbxIsAddOfBiasedPayload", spec := "fnAddASbxIsAddOfBiasedPayload", apart := false, narrowed := true }
def FnAddASbxIsAddOfBiasedPayloadUptoSaid : Prop := fnAddASbxIsAddOfBiasedPayloadUptoRow.holds Try.pinned (OpenSpec.upto fnAddASbxIsAddOfBiasedPayloadSpec)

/-- 'n005_106.FnAddAfterPopsRewritesTail', WHERE WHAT IT READS IS OF BULK AT MOST 1048576: true; the input reads as it did. -/
def fnAddAfterPopsRewritesTailUptoRow : OpenClaim := { program := "ytnpljmcmpeaafaa", sum := "78c3356b356221ee19893dcc5d5929b18363574f6c7b41ba60ab765b92f92165", func := "github.com/yuin/gopher-lua/n005_106.FnAddAfterPopsRewritesTail", spec := "fnAddAfterPopsRewritesTail", apart := false, narrowed := true }
def FnAddAfterPopsRewritesTailUptoSaid : Prop := fnAddAfterPopsRewritesTailUptoRow.holds Try.pinned (OpenSpec.upto fnAddAfterPopsRewritesTailSpec)

end Rows
end Go.Proofs.Ytnpljmcmpeaafaa
