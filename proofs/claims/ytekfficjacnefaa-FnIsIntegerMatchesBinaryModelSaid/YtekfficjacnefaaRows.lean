/-
  No cell of these rows narrows 'for every input' (looked for: loops, veiled, ifaces, maps, wideKeys, modest, calm, conditions, laid).
  DERIVED. THE GIVEN ROWS OF THIS SEAT. 3 by the template 'for every input the law returns true; each argument reads behind the call as it read before'; 0 by the template 'total and deterministic' (their statements: YtekfficjacnefaaTotals.lean).
  GIVEN WITH THE SEED: the statements are not yours to turn. If you find one false, say at which input.
  Laid BY PROGRAM, IN A SANDBOX (cutbox-rows.mjs): the forced cells as the released guide's own fill.sh prints them over the translation 1717fddfcb88a88c… (all of the seat's roots in one cut). By AI agents, Wed Nov 11 2026. No macro, syntax, notation, axiom, sorry.
-/
import Derived.Test.YtekfficjacnefaaChecked
import GoSem.Claim
import GoSem.ClaimJoined
import GoSem.ClaimMapViews
import Derived.JoinedTies
import Derived.KernelRfl
namespace Go.Proofs.Ytekfficjacnefaa
/- THE CELL 'sum', in the pinned program and in every row, IS THE sha256 OF THE DUMP (.gsa) THAT YtekfficjacnefaaProg.lean LOADS. Nothing in Lean hashes anything: it is a label: what it is worth is what the hold of that sum in a sandbox is worth. -/
noncomputable def Try.pinned : Pinned := { name := "ytekfficjacnefaa", sum := "1717fddfcb88a88cc9b7117faa26e729f46fccd5ab7e5cff1ffc5428503846dd", checked := Try.checked }
namespace Rows
def none {H : Type} : Left H := { results := [], args := [] }

/-- 'n005_10.FnIsIntegerMatchesBinaryModel': WHATEVER THE INPUT: true; the input reads as it did. -/
def fnIsIntegerMatchesBinaryModelSpec : ChangeSpec := { name := "fnIsIntegerMatchesBinaryModel", fn := fun _ => fun
  | [d] => { results := [.lit (.bool true)], args := [d] }
  | _ => none }
def fnIsIntegerMatchesBinaryModelRow : OpenClaim := { program := "ytekfficjacnefaa", sum := "1717fddfcb88a88cc9b7117faa26e729f46fccd5ab7e5cff1ffc5428503846dd", func := "github.com/yuin/gopher-lua/n005_10.FnIsIntegerMatchesBinaryModel", spec := "fnIsIntegerMatchesBinaryModel", apart := false }
def FnIsIntegerMatchesBinaryModelSaid : Prop := fnIsIntegerMatchesBinaryModelRow.holds Try.pinned (OpenSpec.ofChange fnIsIntegerMatchesBinaryModelSpec)

/-- ITS FALSE NEIGHBOUR: 'it returns false'. Refute it at one input. -/
def fnIsIntegerMatchesBinaryModelWrong : ChangeSpec := { name := "fnIsIntegerMatchesBinaryModel", fn := fun _ => fun
  | [d] => { results := [.lit (.bool false)], args := [d] }
  | _ => none }
def FnIsIntegerMatchesBinaryModelWrongFalsely : Prop := fnIsIntegerMatchesBinaryModelRow.holds Try.pinned (OpenSpec.ofChange fnIsIntegerMatchesBinaryModelWrong)

/-- 'n005_10.FnIsIntegerNegationSymmetric': WHATEVER THE INPUT: true; the input reads as it did. -/
def fnIsIntegerNegationSymmetricSpec : ChangeSpec := { name := "fnIsIntegerNegationSymmetric", fn := fun _ => fun
  | [d] => { results := [.lit (.bool true)], args := [d] }
  | _ => none }
def fnIsIntegerNegationSymmetricRow : OpenClaim := { program := "ytekfficjacnefaa", sum := "1717fddfcb88a88cc9b7117faa26e729f46fccd5ab7e5cff1ffc5428503846dd", func := "github.com/yuin/gopher-lua/n005_10.FnIsIntegerNegationSymmetric", spec := "fnIsIntegerNegationSymmetric", apart := false }
def FnIsIntegerNegationSymmetricSaid : Prop := fnIsIntegerNegationSymmetricRow.holds Try.pinned (OpenSpec.ofChange fnIsIntegerNegationSymmetricSpec)

/-- ITS FALSE NEIGHBOUR: 'it returns false'. Refute it at one input. -/
def fnIsIntegerNegationSymmetricWrong : ChangeSpec := { name := "fnIsIntegerNegationSymmetric", fn := fun _ => fun
  | [d] => { results := [.lit (.bool false)], args := [d] }
  | _ => none }
def FnIsIntegerNegationSymmetricWrongFalsely : Prop := fnIsIntegerNegationSymmetricRow.holds Try.pinned (OpenSpec.ofChange fnIsIntegerNegationSymmetricWrong)

/-- 'n005_10.FnIsIntegerHalves': WHATEVER THE INPUT: true; the input reads as it did. -/
def fnIsIntegerHalvesSpec : ChangeSpec := { name := "fnIsIntegerHalves", fn := fun _ => fun
  | [d] => { results := [.lit (.bool true)], args := [d] }
  | _ => none }
def fnIsIntegerHalvesRow : OpenClaim := { program := "ytekfficjacnefaa", sum := "1717fddfcb88a88cc9b7117faa26e729f46fccd5ab7e5cff1ffc5428503846dd", func := "github.com/yuin/gopher-lua/n005_10.FnIsIntegerHalves", spec := "fnIsIntegerHalves", apart := false }
def FnIsIntegerHalvesSaid : Prop := fnIsIntegerHalvesRow.holds Try.pinned (OpenSpec.ofChange fnIsIntegerHalvesSpec)

/-- ITS FALSE NEIGHBOUR: 'it returns false'. Refute it at one input. -/
def fnIsIntegerHalvesWrong : ChangeSpec := { name := "fnIsIntegerHalves", fn := fun _ => fun
  | [d] => { results := [.lit (.bool false)], args := [d] }
  | _ => none }
def FnIsIntegerHalvesWrongFalsely : Prop := fnIsIntegerHalvesRow.holds Try.pinned (OpenSpec.ofChange fnIsIntegerHalvesWrong)

/- THE SECOND FORM. 'bulk': how many values and letters a reading holds, each counted each time it is reached (what is shared counts as often as it is met; a slice's spare places count too). A statement '..UptoSaid' is the law's where the arguments, and the package variables that the reading takes, are together of bulk at most 1048576: NARROWER than '..Said'. Prove '..Said' where nothing that the law and all that it calls make is longer than what came in: it says more and counts as full. Else prove '..UptoSaid'. A law counts once. -/
mutual
def uptoBulk {H : Type} : DataW H → Nat
  | .lit (.string bytes) => bytes.length + 1
  | .lit _ => 1
  | .nil => 1
  | .ptr d => uptoBulk d + 1
  | .slice elems spare => uptoBulkAll elems + uptoBulkAll spare + 1
  | .agg parts => uptoBulkAll parts + 1
  | .iface _ d => uptoBulk d + 1
  | .map entries => uptoBulkEntries entries + 1
  | .held _ => 1
def uptoBulkAll {H : Type} : List (DataW H) → Nat
  | [] => 0
  | d :: r => uptoBulk d + uptoBulkAll r
def uptoBulkEntries {H : Type} : List (Lit × DataW H) → Nat
  | [] => 0
  | x :: r => uptoBulkEntry x + uptoBulkEntries r
def uptoBulkEntry {H : Type} : Lit × DataW H → Nat
  | (.string bytes, d) => bytes.length + uptoBulk d + 1
  | (_, d) => uptoBulk d + 1
 end
def uptoSmall : (H : Type) → List (DataW H) → Bool := fun _ ds => decide (uptoBulkAll ds ≤ 1048576)
def OpenSpec.upto (s : _root_.Go.ChangeSpec) : _root_.Go.OpenSpec := { _root_.Go.OpenSpec.ofChange s with cond := some uptoSmall }

/-- 'n005_10.FnIsIntegerMatchesBinaryModel', WHERE WHAT IT READS IS OF BULK AT MOST 1048576: true; the input reads as it did. -/
def fnIsIntegerMatchesBinaryModelUptoRow : OpenClaim := { program := "ytekfficjacnefaa", sum := "1717fddfcb88a88cc9b7117faa26e729f46fccd5ab7e5cff1ffc5428503846dd", func := "github.com/yuin/gopher-lua/n005_10.FnIsIntegerMatchesBinaryModel", spec := "fnIsIntegerMatchesBinaryModel", apart := false, narrowed := true }
def FnIsIntegerMatchesBinaryModelUptoSaid : Prop := fnIsIntegerMatchesBinaryModelUptoRow.holds Try.pinned (OpenSpec.upto fnIsIntegerMatchesBinaryModelSpec)

/-- 'n005_10.FnIsIntegerNegationSymmetric', WHERE WHAT IT READS IS OF BULK AT MOST 1048576: true; the input reads as it did. -/
def fnIsIntegerNegationSymmetricUptoRow : OpenClaim := { program := "ytekfficjacnefaa", sum := "1717fddfcb88a88cc9b7117faa26e729f46fccd5ab7e5cff1ffc5428503846dd", func := "github.com/yuin/gopher-lua/n005_10.FnIsIntegerNegationSymmetric", spec := "fnIsIntegerNegationSymmetric", apart := false, narrowed := true }
def FnIsIntegerNegationSymmetricUptoSaid : Prop := fnIsIntegerNegationSymmetricUptoRow.holds Try.pinned (OpenSpec.upto fnIsIntegerNegationSymmetricSpec)

/-- 'n005_10.FnIsIntegerHalves', WHERE WHAT IT READS IS OF BULK AT MOST 1048576: true; the input reads as it did. -/
def fnIsIntegerHalvesUptoRow : OpenClaim := { program := "ytekfficjacnefaa", sum := "1717fddfcb88a88cc9b7117faa26e729f46fccd5ab7e5cff1ffc5428503846dd", func := "github.com/yuin/gopher-lua/n005_10.FnIsIntegerHalves", spec := "fnIsIntegerHalves", apart := false, narrowed := true }
def FnIsIntegerHalvesUptoSaid : Prop := fnIsIntegerHalvesUptoRow.holds Try.pinned (OpenSpec.upto fnIsIntegerHalvesSpec)

end Rows
end Go.Proofs.Ytekfficjacnefaa
