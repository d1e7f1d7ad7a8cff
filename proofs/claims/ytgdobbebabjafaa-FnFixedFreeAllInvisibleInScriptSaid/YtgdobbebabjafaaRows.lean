/-
  No cell of these rows narrows 'for every input' (looked for: loops, veiled, ifaces, maps, wideKeys, modest, calm, conditions, laid).
  DERIVED. THE GIVEN ROWS OF THIS SEAT. 6 by the template 'for every input the law returns true; each argument reads behind the call as it read before'; 0 by the template 'total and deterministic' (their statements: YtgdobbebabjafaaTotals.lean).
  GIVEN WITH THE SEED: the statements are not yours to turn. If you find one false, say at which input.
  Laid BY PROGRAM, IN A SANDBOX (cutbox-rows.mjs): the forced cells as the released guide's own fill.sh prints them over the translation 0eaf8f20cb7043ab… (all of the seat's roots in one cut). By AI agents, Wed Nov 11 2026. No macro, syntax, notation, axiom, sorry.
-/
import Derived.Test.YtgdobbebabjafaaChecked
import GoSem.Claim
import GoSem.ClaimJoined
import GoSem.ClaimMapViews
import Derived.JoinedTies
import Derived.KernelRfl
namespace Go.Proofs.Ytgdobbebabjafaa
/- THE CELL 'sum', in the pinned program and in every row, IS THE sha256 OF THE DUMP (.gsa) THAT YtgdobbebabjafaaProg.lean LOADS. Nothing in Lean hashes anything: it is a label: what it is worth is what the hold of that sum in a sandbox is worth. -/
noncomputable def Try.pinned : Pinned := { name := "ytgdobbebabjafaa", sum := "0eaf8f20cb7043ab2bd0cf1ea2f894e354795dd47f289e4aede6bb5e49fb136e", checked := Try.checked }
namespace Rows
def none {H : Type} : Left H := { results := [], args := [] }

/-- 'n005_120.FnFixedPopIsLIFO': WHATEVER THE INPUT: true; the input reads as it did. -/
def fnFixedPopIsLIFOSpec : ChangeSpec := { name := "fnFixedPopIsLIFO", fn := fun _ => fun
  | [d1, d2] => { results := [.lit (.bool true)], args := [d1, d2] }
  | _ => none }
def fnFixedPopIsLIFORow : OpenClaim := { program := "ytgdobbebabjafaa", sum := "0eaf8f20cb7043ab2bd0cf1ea2f894e354795dd47f289e4aede6bb5e49fb136e", func := "github.com/yuin/gopher-lua/n005_120.FnFixedPopIsLIFO", spec := "fnFixedPopIsLIFO", apart := false }
def FnFixedPopIsLIFOSaid : Prop := fnFixedPopIsLIFORow.holds Try.pinned (OpenSpec.ofChange fnFixedPopIsLIFOSpec)

/-- ITS FALSE NEIGHBOUR: 'it returns false'. Refute it at one input. -/
def fnFixedPopIsLIFOWrong : ChangeSpec := { name := "fnFixedPopIsLIFO", fn := fun _ => fun
  | [d1, d2] => { results := [.lit (.bool false)], args := [d1, d2] }
  | _ => none }
def FnFixedPopIsLIFOWrongFalsely : Prop := fnFixedPopIsLIFORow.holds Try.pinned (OpenSpec.ofChange fnFixedPopIsLIFOWrong)

/-- 'n005_120.FnFixedAtAgreesWithLast': WHATEVER THE INPUT: true; the input reads as it did. -/
def fnFixedAtAgreesWithLastSpec : ChangeSpec := { name := "fnFixedAtAgreesWithLast", fn := fun _ => fun
  | [d1, d2] => { results := [.lit (.bool true)], args := [d1, d2] }
  | _ => none }
def fnFixedAtAgreesWithLastRow : OpenClaim := { program := "ytgdobbebabjafaa", sum := "0eaf8f20cb7043ab2bd0cf1ea2f894e354795dd47f289e4aede6bb5e49fb136e", func := "github.com/yuin/gopher-lua/n005_120.FnFixedAtAgreesWithLast", spec := "fnFixedAtAgreesWithLast", apart := false }
def FnFixedAtAgreesWithLastSaid : Prop := fnFixedAtAgreesWithLastRow.holds Try.pinned (OpenSpec.ofChange fnFixedAtAgreesWithLastSpec)

/-- ITS FALSE NEIGHBOUR: 'it returns false'. Refute it at one input. -/
def fnFixedAtAgreesWithLastWrong : ChangeSpec := { name := "fnFixedAtAgreesWithLast", fn := fun _ => fun
  | [d1, d2] => { results := [.lit (.bool false)], args := [d1, d2] }
  | _ => none }
def FnFixedAtAgreesWithLastWrongFalsely : Prop := fnFixedAtAgreesWithLastRow.holds Try.pinned (OpenSpec.ofChange fnFixedAtAgreesWithLastWrong)

/-- 'n005_120.FnFixedAtReadsPushedFrames': WHATEVER THE INPUT: true; the input reads as it did. -/
def fnFixedAtReadsPushedFramesSpec : ChangeSpec := { name := "fnFixedAtReadsPushedFrames", fn := fun _ => fun
  | [d1, d2] => { results := [.lit (.bool true)], args := [d1, d2] }
  | _ => none }
def fnFixedAtReadsPushedFramesRow : OpenClaim := { program := "ytgdobbebabjafaa", sum := "0eaf8f20cb7043ab2bd0cf1ea2f894e354795dd47f289e4aede6bb5e49fb136e", func := "github.com/yuin/gopher-lua/n005_120.FnFixedAtReadsPushedFrames", spec := "fnFixedAtReadsPushedFrames", apart := false }
def FnFixedAtReadsPushedFramesSaid : Prop := fnFixedAtReadsPushedFramesRow.holds Try.pinned (OpenSpec.ofChange fnFixedAtReadsPushedFramesSpec)

/-- ITS FALSE NEIGHBOUR: 'it returns false'. Refute it at one input. -/
def fnFixedAtReadsPushedFramesWrong : ChangeSpec := { name := "fnFixedAtReadsPushedFrames", fn := fun _ => fun
  | [d1, d2] => { results := [.lit (.bool false)], args := [d1, d2] }
  | _ => none }
def FnFixedAtReadsPushedFramesWrongFalsely : Prop := fnFixedAtReadsPushedFramesRow.holds Try.pinned (OpenSpec.ofChange fnFixedAtReadsPushedFramesWrong)

/-- 'n005_120.FnFixedFreeAllChangesNothing': WHATEVER THE INPUT: true; the input reads as it did. -/
def fnFixedFreeAllChangesNothingSpec : ChangeSpec := { name := "fnFixedFreeAllChangesNothing", fn := fun _ => fun
  | [d1, d2] => { results := [.lit (.bool true)], args := [d1, d2] }
  | _ => none }
def fnFixedFreeAllChangesNothingRow : OpenClaim := { program := "ytgdobbebabjafaa", sum := "0eaf8f20cb7043ab2bd0cf1ea2f894e354795dd47f289e4aede6bb5e49fb136e", func := "github.com/yuin/gopher-lua/n005_120.FnFixedFreeAllChangesNothing", spec := "fnFixedFreeAllChangesNothing", apart := false }
def FnFixedFreeAllChangesNothingSaid : Prop := fnFixedFreeAllChangesNothingRow.holds Try.pinned (OpenSpec.ofChange fnFixedFreeAllChangesNothingSpec)

/-- ITS FALSE NEIGHBOUR: 'it returns false'. Refute it at one input. -/
def fnFixedFreeAllChangesNothingWrong : ChangeSpec := { name := "fnFixedFreeAllChangesNothing", fn := fun _ => fun
  | [d1, d2] => { results := [.lit (.bool false)], args := [d1, d2] }
  | _ => none }
def FnFixedFreeAllChangesNothingWrongFalsely : Prop := fnFixedFreeAllChangesNothingRow.holds Try.pinned (OpenSpec.ofChange fnFixedFreeAllChangesNothingWrong)

/-- 'n005_120.FnFixedFreeAllInvisibleInScript': WHATEVER THE INPUT: true; the input reads as it did. -/
def fnFixedFreeAllInvisibleInScriptSpec : ChangeSpec := { name := "fnFixedFreeAllInvisibleInScript", fn := fun _ => fun
  | [d] => { results := [.lit (.bool true)], args := [d] }
  | _ => none }
def fnFixedFreeAllInvisibleInScriptRow : OpenClaim := { program := "ytgdobbebabjafaa", sum := "0eaf8f20cb7043ab2bd0cf1ea2f894e354795dd47f289e4aede6bb5e49fb136e", func := "github.com/yuin/gopher-lua/n005_120.FnFixedFreeAllInvisibleInScript", spec := "fnFixedFreeAllInvisibleInScript", apart := false }
def FnFixedFreeAllInvisibleInScriptSaid : Prop := fnFixedFreeAllInvisibleInScriptRow.holds Try.pinned (OpenSpec.ofChange fnFixedFreeAllInvisibleInScriptSpec)

/-- ITS FALSE NEIGHBOUR: 'it returns false'. Refute it at one input. -/
def fnFixedFreeAllInvisibleInScriptWrong : ChangeSpec := { name := "fnFixedFreeAllInvisibleInScript", fn := fun _ => fun
  | [d] => { results := [.lit (.bool false)], args := [d] }
  | _ => none }
def FnFixedFreeAllInvisibleInScriptWrongFalsely : Prop := fnFixedFreeAllInvisibleInScriptRow.holds Try.pinned (OpenSpec.ofChange fnFixedFreeAllInvisibleInScriptWrong)

/-- 'n005_120.FnFixedPopUndoesPush': WHATEVER THE INPUT: true; the input reads as it did. -/
def fnFixedPopUndoesPushSpec : ChangeSpec := { name := "fnFixedPopUndoesPush", fn := fun _ => fun
  | [d1, d2, d3] => { results := [.lit (.bool true)], args := [d1, d2, d3] }
  | _ => none }
def fnFixedPopUndoesPushRow : OpenClaim := { program := "ytgdobbebabjafaa", sum := "0eaf8f20cb7043ab2bd0cf1ea2f894e354795dd47f289e4aede6bb5e49fb136e", func := "github.com/yuin/gopher-lua/n005_120.FnFixedPopUndoesPush", spec := "fnFixedPopUndoesPush", apart := false }
def FnFixedPopUndoesPushSaid : Prop := fnFixedPopUndoesPushRow.holds Try.pinned (OpenSpec.ofChange fnFixedPopUndoesPushSpec)

/-- ITS FALSE NEIGHBOUR: 'it returns false'. Refute it at one input. -/
def fnFixedPopUndoesPushWrong : ChangeSpec := { name := "fnFixedPopUndoesPush", fn := fun _ => fun
  | [d1, d2, d3] => { results := [.lit (.bool false)], args := [d1, d2, d3] }
  | _ => none }
def FnFixedPopUndoesPushWrongFalsely : Prop := fnFixedPopUndoesPushRow.holds Try.pinned (OpenSpec.ofChange fnFixedPopUndoesPushWrong)

/- THE SECOND FORM. 'bulk': how many values and letters a reading holds, each counted each time it is reached (what is shared counts as often as it is met; a slice's spare places count too). A statement '..UptoSaid' is the law's where the arguments, and the package variables that the reading takes, are together of bulk at most 1048576: NARROWER than '..Said'. Prove '..Said' where nothing that the law and all that it calls make is longer than what came in: it says more and counts as full. Else prove '..UptoSaid'. A law counts once. -/
mutual
def uptoBulk {H : Type} : DataW H → Nat
  | .lit (.string bytes) => bytes.length + 1
  | .lit _ => 1
  | .nil => 1
  | .ptr d => uptoBulk d + 1
  | .slice elems spare => uptoBulkAll elems + uptoBulkAll spare + 1
  | .agg parts => uptoBulkAll parts + 1
  | .iface _ d => uptoBulk d + 1
  | .map entries => uptoBulkEntries entries + 1
  | .held _ => 1
def uptoBulkAll {H : Type} : List (DataW H) → Nat
  | [] => 0
  | d :: r => uptoBulk d + uptoBulkAll r
def uptoBulkEntries {H : Type} : List (Lit × DataW H) → Nat
  | [] => 0
  | x :: r => uptoBulkEntry x + uptoBulkEntries r
def uptoBulkEntry {H : Type} : Lit × DataW H → Nat
  | (.string bytes, d) => bytes.length + uptoBulk d + 1
  | (_, d) => uptoBulk d + 1
 end
def uptoSmall : (H : Type) → List (DataW H) → Bool := fun _ ds => decide (uptoBulkAll ds ≤ 1048576)
def OpenSpec.upto (s : _root_.Go.ChangeSpec) : _root_.Go.OpenSpec := { _root_.Go.OpenSpec.ofChange s with cond := some uptoSmall }

/-- 'n005_120.FnFixedPopIsLIFO', WHERE WHAT IT READS IS OF BULK AT MOST 1048576: true; the input reads as it did. -/
def fnFixedPopIsLIFOUptoRow : OpenClaim := { program := "ytgdobbebabjafaa", sum := "0eaf8f20cb7043ab2bd0cf1ea2f894e354795dd47f289e4aede6bb5e49fb136e", func := "github.com/yuin/gopher-lua/n005_120.FnFixedPopIsLIFO", spec := "fnFixedPopIsLIFO", apart := false, narrowed := true }
def FnFixedPopIsLIFOUptoSaid : Prop := fnFixedPopIsLIFOUptoRow.holds Try.pinned (OpenSpec.upto fnFixedPopIsLIFOSpec)

/-- 'n005_120.FnFixedAtAgreesWithLast', WHERE WHAT IT READS IS OF BULK AT MOST 1048576: true; the input reads as it did. -/
def fnFixedAtAgreesWithLastUptoRow : OpenClaim := { program := "ytgdobbebabjafaa", sum := "0eaf8f20cb7043ab2bd0cf1ea2f894e354795dd47f289e4aede6bb5e49fb136e", func := "github.com/yuin/gopher-lua/n005_120.FnFixedAtAgreesWithLast", spec := "fnFixedAtAgreesWithLast", apart := false, narrowed := true }
def FnFixedAtAgreesWithLastUptoSaid : Prop := fnFixedAtAgreesWithLastUptoRow.holds Try.pinned (OpenSpec.upto fnFixedAtAgreesWithLastSpec)

/-- 'n005_120.FnFixedAtReadsPushedFrames', WHERE WHAT IT READS IS OF BULK AT MOST 1048576: true; the input reads as it did. -/
def fnFixedAtReadsPushedFramesUptoRow : OpenClaim := { program := "ytgdobbebabjafaa", sum := "0eaf8f20cb7043ab2bd0cf1ea2f894e354795dd47f289e4aede6bb5e49fb136e", func := "github.com/yuin/gopher-lua/n005_120.FnFixedAtReadsPushedFrames", spec := "fnFixedAtReadsPushedFrames", apart := false, narrowed := true }
def FnFixedAtReadsPushedFramesUptoSaid : Prop := fnFixedAtReadsPushedFramesUptoRow.holds Try.pinned (OpenSpec.upto fnFixedAtReadsPushedFramesSpec)

/-- 'n005_120.FnFixedFreeAllChangesNothing', WHERE WHAT IT READS IS OF BULK AT MOST 1048576: true; the input reads as it did. -/
def fnFixedFreeAllChangesNothingUptoRow : OpenClaim := { program := "ytgdobbebabjafaa", sum := "0eaf8f20cb7043ab2bd0cf1ea2f894e354795dd47f289e4aede6bb5e49fb136e", func := "github.com/yuin/gopher-lua/n005_120.FnFixedFreeAllChangesNothing", spec := "fnFixedFreeAllChangesNothing", apart := false, narrowed := true }
def FnFixedFreeAllChangesNothingUptoSaid : Prop := fnFixedFreeAllChangesNothingUptoRow.holds Try.pinned (OpenSpec.upto fnFixedFreeAllChangesNothingSpec)

/-- 'n005_120.FnFixedFreeAllInvisibleInScript', WHERE WHAT IT READS IS OF BULK AT MOST 1048576: true; the input reads as it did. -/
def fnFixedFreeAllInvisibleInScriptUptoRow : OpenClaim := { program := "ytgdobbebabjafaa", sum := "0eaf8f20cb7043ab2bd0cf1ea2f894e354795dd47f289e4aede6bb5e49fb136e", func := "github.com/yuin/gopher-lua/n005_120.FnFixedFreeAllInvisibleInScript", spec := "fnFixedFreeAllInvisibleInScript", apart := false, narrowed := true }
def FnFixedFreeAllInvisibleInScriptUptoSaid : Prop := fnFixedFreeAllInvisibleInScriptUptoRow.holds Try.pinned (OpenSpec.upto fnFixedFreeAllInvisibleInScriptSpec)

/-- 'n005_120.FnFixedPopUndoesPush', WHERE WHAT IT READS IS OF BULK AT MOST 1048576: true; the input reads as it did. -/
def fnFixedPopUndoesPushUptoRow : OpenClaim := { program := "ytgdobbebabjafaa", sum := "0eaf8f20cb7043ab2bd0cf1ea2f894e354795dd47f289e4aede6bb5e49fb136e", func := "github.com/yuin/gopher-lua/n005_120.FnFixedPopUndoesPush", spec := "fnFixedPopUndoesPush", apart := false, narrowed := true }
def FnFixedPopUndoesPushUptoSaid : Prop := fnFixedPopUndoesPushUptoRow.holds Try.pinned (OpenSpec.upto fnFixedPopUndoesPushSpec)

end Rows
end Go.Proofs.Ytgdobbebabjafaa
