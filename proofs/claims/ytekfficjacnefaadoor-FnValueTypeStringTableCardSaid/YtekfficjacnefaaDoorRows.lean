/-
  NARROWER THAN 'FOR EVERY INPUT', by the rows' own cells (each row's printed sentence says how): FnIsArrayKeyOnIntegers: laid · FnValueTypeStringTable: laid · FnIsArrayKeyExact: laid.
  DERIVED. THE GIVEN ROWS OF THIS SEAT. 3 by the template 'for every input the law returns true; each argument reads behind the call as it read before'; 0 by the template 'total and deterministic' (their statements: YtekfficjacnefaaDoorTotals.lean).
  GIVEN WITH THE SEED: the statements are not yours to turn. If you find one false, say at which input.
  Laid BY PROGRAM, IN A SANDBOX (cutbox-rows.mjs): the forced cells as the released guide's own fill.sh prints them over the translation 4514a99922edda8e… (all of the seat's roots in one cut). By AI agents, Wed Nov 11 2026. No macro, syntax, notation, axiom, sorry.
-/
import Derived.Test.YtekfficjacnefaaDoorChecked
import GoSem.Claim
import GoSem.ClaimJoined
import GoSem.ClaimMapViews
import Derived.JoinedTies
import Derived.KernelRfl
namespace Go.Proofs.YtekfficjacnefaaDoor
/- THE CELL 'sum', in the pinned program and in every row, IS THE sha256 OF THE DUMP (.gsa) THAT YtekfficjacnefaaDoorProg.lean LOADS. Nothing in Lean hashes anything: it is a label: what it is worth is what the hold of that sum in a sandbox is worth. -/
noncomputable def Tryd.pinned : Pinned := { name := "ytekfficjacnefaadoor", sum := "4514a99922edda8e287897caa49ebbbb737f1ef36bc0ebeb42a1dd32a977ddd0", checked := Tryd.checked }
namespace Rows
def none {H : Type} : Left H := { results := [], args := [] }

/- WHAT THE LISTED PACKAGE-LEVEL VARIABLES READ AS WHEN THE CALL BEGINS. Each datum BY PROGRAM (the guide's laid-datum.mjs) off the statement by which the dump's own 'gosem.cut.vars' lays the variable. In a bare row this is a premise. The card (YtekfficjacnefaaDoorCards.lean) ties it to the program's text. -/
def laid_github_com_yuin_gopher_lua_MaxArrayIndex {H : Type} : DataW H := .lit (.int .i64 67108864)
def laid_github_com_yuin_gopher_lua_lValueNames {H : Type} : DataW H := .agg [.lit (.string [110, 105, 108]), .lit (.string [98, 111, 111, 108, 101, 97, 110]), .lit (.string [110, 117, 109, 98, 101, 114]), .lit (.string [115, 116, 114, 105, 110, 103]), .lit (.string [102, 117, 110, 99, 116, 105, 111, 110]), .lit (.string [117, 115, 101, 114, 100, 97, 116, 97]), .lit (.string [116, 104, 114, 101, 97, 100]), .lit (.string [116, 97, 98, 108, 101]), .lit (.string [99, 104, 97, 110, 110, 101, 108])]

/-- 'n005_10.FnIsArrayKeyOnIntegers': WHATEVER THE INPUT: true; the input reads as it did. -/
def fnIsArrayKeyOnIntegersSpec : ChangeSpec := { name := "fnIsArrayKeyOnIntegers", vars := ["github.com/yuin/gopher-lua.MaxArrayIndex"], fn := fun _ => fun
  | [d, g1] => { results := [.lit (.bool true)], args := [d], vars := [g1] }
  | _ => none }
def fnIsArrayKeyOnIntegersRow : OpenClaim := { program := "ytekfficjacnefaadoor", sum := "4514a99922edda8e287897caa49ebbbb737f1ef36bc0ebeb42a1dd32a977ddd0", func := "github.com/yuin/gopher-lua/n005_10.FnIsArrayKeyOnIntegers", spec := "fnIsArrayKeyOnIntegers", named := ["github.com/yuin/gopher-lua.MaxArrayIndex"], apart := false, laid := [("github.com/yuin/gopher-lua.MaxArrayIndex", laid_github_com_yuin_gopher_lua_MaxArrayIndex)] }
def FnIsArrayKeyOnIntegersSaid : Prop := fnIsArrayKeyOnIntegersRow.holds Tryd.pinned (OpenSpec.ofChange fnIsArrayKeyOnIntegersSpec)

/-- ITS FALSE NEIGHBOUR: 'it returns false'. Refute it at one input. -/
def fnIsArrayKeyOnIntegersWrong : ChangeSpec := { name := "fnIsArrayKeyOnIntegers", vars := ["github.com/yuin/gopher-lua.MaxArrayIndex"], fn := fun _ => fun
  | [d, g1] => { results := [.lit (.bool false)], args := [d], vars := [g1] }
  | _ => none }
def FnIsArrayKeyOnIntegersWrongFalsely : Prop := fnIsArrayKeyOnIntegersRow.holds Tryd.pinned (OpenSpec.ofChange fnIsArrayKeyOnIntegersWrong)

/-- 'n005_113.FnValueTypeStringTable': WHATEVER THE INPUT: true; the input reads as it did. -/
def fnValueTypeStringTableSpec : ChangeSpec := { name := "fnValueTypeStringTable", vars := ["github.com/yuin/gopher-lua.lValueNames"], fn := fun _ => fun
  | [d, g1] => { results := [.lit (.bool true)], args := [d], vars := [g1] }
  | _ => none }
def fnValueTypeStringTableRow : OpenClaim := { program := "ytekfficjacnefaadoor", sum := "4514a99922edda8e287897caa49ebbbb737f1ef36bc0ebeb42a1dd32a977ddd0", func := "github.com/yuin/gopher-lua/n005_113.FnValueTypeStringTable", spec := "fnValueTypeStringTable", named := ["github.com/yuin/gopher-lua.lValueNames"], apart := false, laid := [("github.com/yuin/gopher-lua.lValueNames", laid_github_com_yuin_gopher_lua_lValueNames)] }
def FnValueTypeStringTableSaid : Prop := fnValueTypeStringTableRow.holds Tryd.pinned (OpenSpec.ofChange fnValueTypeStringTableSpec)

/-- ITS FALSE NEIGHBOUR: 'it returns false'. Refute it at one input. -/
def fnValueTypeStringTableWrong : ChangeSpec := { name := "fnValueTypeStringTable", vars := ["github.com/yuin/gopher-lua.lValueNames"], fn := fun _ => fun
  | [d, g1] => { results := [.lit (.bool false)], args := [d], vars := [g1] }
  | _ => none }
def FnValueTypeStringTableWrongFalsely : Prop := fnValueTypeStringTableRow.holds Tryd.pinned (OpenSpec.ofChange fnValueTypeStringTableWrong)

/-- 'n005_10.FnIsArrayKeyExact': WHATEVER THE INPUT: true; the input reads as it did. -/
def fnIsArrayKeyExactSpec : ChangeSpec := { name := "fnIsArrayKeyExact", vars := ["github.com/yuin/gopher-lua.MaxArrayIndex"], fn := fun _ => fun
  | [d, g1] => { results := [.lit (.bool true)], args := [d], vars := [g1] }
  | _ => none }
def fnIsArrayKeyExactRow : OpenClaim := { program := "ytekfficjacnefaadoor", sum := "4514a99922edda8e287897caa49ebbbb737f1ef36bc0ebeb42a1dd32a977ddd0", func := "github.com/yuin/gopher-lua/n005_10.FnIsArrayKeyExact", spec := "fnIsArrayKeyExact", named := ["github.com/yuin/gopher-lua.MaxArrayIndex"], apart := false, laid := [("github.com/yuin/gopher-lua.MaxArrayIndex", laid_github_com_yuin_gopher_lua_MaxArrayIndex)] }
def FnIsArrayKeyExactSaid : Prop := fnIsArrayKeyExactRow.holds Tryd.pinned (OpenSpec.ofChange fnIsArrayKeyExactSpec)

/-- ITS FALSE NEIGHBOUR: 'it returns false'. Refute it at one input. -/
def fnIsArrayKeyExactWrong : ChangeSpec := { name := "fnIsArrayKeyExact", vars := ["github.com/yuin/gopher-lua.MaxArrayIndex"], fn := fun _ => fun
  | [d, g1] => { results := [.lit (.bool false)], args := [d], vars := [g1] }
  | _ => none }
def FnIsArrayKeyExactWrongFalsely : Prop := fnIsArrayKeyExactRow.holds Tryd.pinned (OpenSpec.ofChange fnIsArrayKeyExactWrong)

/- THE SECOND FORM. 'bulk': how many values and letters a reading holds, each counted each time it is reached (what is shared counts as often as it is met; a slice's spare places count too). A statement '..UptoSaid' is the law's where the arguments, and the package variables that the reading takes, are together of bulk at most 1048576: NARROWER than '..Said'. Prove '..Said' where nothing that the law and all that it calls make is longer than what came in: it says more and counts as full. Else prove '..UptoSaid'. A law counts once. -/
mutual
def uptoBulk {H : Type} : DataW H → Nat
  | .lit (.string bytes) => bytes.length + 1
  | .lit _ => 1
  | .nil => 1
  | .ptr d => uptoBulk d + 1
  | .slice elems spare => uptoBulkAll elems + uptoBulkAll spare + 1
  | .agg parts => uptoBulkAll parts + 1
  | .iface _ d => uptoBulk d + 1
  | .map entries => uptoBulkEntries entries + 1
  | .held _ => 1
def uptoBulkAll {H : Type} : List (DataW H) → Nat
  | [] => 0
  | d :: r => uptoBulk d + uptoBulkAll r
def uptoBulkEntries {H : Type} : List (Lit × DataW H) → Nat
  | [] => 0
  | x :: r => uptoBulkEntry x + uptoBulkEntries r
def uptoBulkEntry {H : Type} : Lit × DataW H → Nat
  | (.string bytes, d) => bytes.length + uptoBulk d + 1
  | (_, d) => uptoBulk d + 1
 end
def uptoSmall : (H : Type) → List (DataW H) → Bool := fun _ ds => decide (uptoBulkAll ds ≤ 1048576)
def OpenSpec.upto (s : _root_.Go.ChangeSpec) : _root_.Go.OpenSpec := { _root_.Go.OpenSpec.ofChange s with cond := some uptoSmall }

/-- 'n005_10.FnIsArrayKeyOnIntegers', WHERE WHAT IT READS IS OF BULK AT MOST 1048576: true; the input reads as it did. -/
def fnIsArrayKeyOnIntegersUptoRow : OpenClaim := { program := "ytekfficjacnefaadoor", sum := "4514a99922edda8e287897caa49ebbbb737f1ef36bc0ebeb42a1dd32a977ddd0", func := "github.com/yuin/gopher-lua/n005_10.FnIsArrayKeyOnIntegers", spec := "fnIsArrayKeyOnIntegers", named := ["github.com/yuin/gopher-lua.MaxArrayIndex"], apart := false, laid := [("github.com/yuin/gopher-lua.MaxArrayIndex", laid_github_com_yuin_gopher_lua_MaxArrayIndex)], narrowed := true }
def FnIsArrayKeyOnIntegersUptoSaid : Prop := fnIsArrayKeyOnIntegersUptoRow.holds Tryd.pinned (OpenSpec.upto fnIsArrayKeyOnIntegersSpec)

/-- 'n005_113.FnValueTypeStringTable', WHERE WHAT IT READS IS OF BULK AT MOST 1048576: true; the input reads as it did. -/
def fnValueTypeStringTableUptoRow : OpenClaim := { program := "ytekfficjacnefaadoor", sum := "4514a99922edda8e287897caa49ebbbb737f1ef36bc0ebeb42a1dd32a977ddd0", func := "github.com/yuin/gopher-lua/n005_113.FnValueTypeStringTable", spec := "fnValueTypeStringTable", named := ["github.com/yuin/gopher-lua.lValueNames"], apart := false, laid := [("github.com/yuin/gopher-lua.lValueNames", laid_github_com_yuin_gopher_lua_lValueNames)], narrowed := true }
def FnValueTypeStringTableUptoSaid : Prop := fnValueTypeStringTableUptoRow.holds Tryd.pinned (OpenSpec.upto fnValueTypeStringTableSpec)

/-- 'n005_10.FnIsArrayKeyExact', WHERE WHAT IT READS IS OF BULK AT MOST 1048576: true; the input reads as it did. -/
def fnIsArrayKeyExactUptoRow : OpenClaim := { program := "ytekfficjacnefaadoor", sum := "4514a99922edda8e287897caa49ebbbb737f1ef36bc0ebeb42a1dd32a977ddd0", func := "github.com/yuin/gopher-lua/n005_10.FnIsArrayKeyExact", spec := "fnIsArrayKeyExact", named := ["github.com/yuin/gopher-lua.MaxArrayIndex"], apart := false, laid := [("github.com/yuin/gopher-lua.MaxArrayIndex", laid_github_com_yuin_gopher_lua_MaxArrayIndex)], narrowed := true }
def FnIsArrayKeyExactUptoSaid : Prop := fnIsArrayKeyExactUptoRow.holds Tryd.pinned (OpenSpec.upto fnIsArrayKeyExactSpec)

end Rows
end Go.Proofs.YtekfficjacnefaaDoor
