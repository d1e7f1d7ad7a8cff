/-
  NARROWER THAN 'FOR EVERY INPUT', by the rows' own cells (each row's printed sentence says how): FnNilStringAgreesWithTypeName: laid · FnTypeTagNameAgrees: laid.
  DERIVED. THE GIVEN ROWS OF THIS SEAT. 2 by the template 'for every input the law returns true; each argument reads behind the call as it read before'; 0 by the template 'total and deterministic' (their statements: YtekfficjacnefabDoorTotals.lean).
  GIVEN WITH THE SEED: the statements are not yours to turn. If you find one false, say at which input.
  Laid BY PROGRAM, IN A SANDBOX (cutbox-rows.mjs): the forced cells as the released guide's own fill.sh prints them over the translation c24ebbe93783815d… (all of the seat's roots in one cut). By AI agents, Wed Nov 11 2026. No macro, syntax, notation, axiom, sorry.
-/
import Derived.Test.YtekfficjacnefabDoorChecked
import GoSem.Claim
import GoSem.ClaimJoined
import GoSem.ClaimMapViews
import Derived.JoinedTies
import Derived.KernelRfl
namespace Go.Proofs.YtekfficjacnefabDoor
/- THE CELL 'sum', in the pinned program and in every row, IS THE sha256 OF THE DUMP (.gsa) THAT YtekfficjacnefabDoorProg.lean LOADS. Nothing in Lean hashes anything: it is a label: what it is worth is what the hold of that sum in a sandbox is worth. -/
noncomputable def Tryd.pinned : Pinned := { name := "ytekfficjacnefabdoor", sum := "c24ebbe93783815d54b5664b613c354cb96b41b44960edd4a9df391f920aedab", checked := Tryd.checked }
namespace Rows
def none {H : Type} : Left H := { results := [], args := [] }

/- WHAT THE LISTED PACKAGE-LEVEL VARIABLES READ AS WHEN THE CALL BEGINS. Each datum BY PROGRAM (the guide's laid-datum.mjs) off the statement by which the dump's own 'gosem.cut.vars' lays the variable. In a bare row this is a premise. The card (YtekfficjacnefabDoorCards.lean) ties it to the program's text. -/
def laid_github_com_yuin_gopher_lua_lValueNames {H : Type} : DataW H := .agg [.lit (.string [110, 105, 108]), .lit (.string [98, 111, 111, 108, 101, 97, 110]), .lit (.string [110, 117, 109, 98, 101, 114]), .lit (.string [115, 116, 114, 105, 110, 103]), .lit (.string [102, 117, 110, 99, 116, 105, 111, 110]), .lit (.string [117, 115, 101, 114, 100, 97, 116, 97]), .lit (.string [116, 104, 114, 101, 97, 100]), .lit (.string [116, 97, 98, 108, 101]), .lit (.string [99, 104, 97, 110, 110, 101, 108])]

/-- 'n005_114.FnNilStringAgreesWithTypeName': WHATEVER THE INPUT: true; the input reads as it did. -/
def fnNilStringAgreesWithTypeNameSpec : ChangeSpec := { name := "fnNilStringAgreesWithTypeName", vars := ["github.com/yuin/gopher-lua.lValueNames"], fn := fun _ => fun
  | [d, g1] => { results := [.lit (.bool true)], args := [d], vars := [g1] }
  | _ => none }
def fnNilStringAgreesWithTypeNameRow : OpenClaim := { program := "ytekfficjacnefabdoor", sum := "c24ebbe93783815d54b5664b613c354cb96b41b44960edd4a9df391f920aedab", func := "github.com/yuin/gopher-lua/n005_114.FnNilStringAgreesWithTypeName", spec := "fnNilStringAgreesWithTypeName", named := ["github.com/yuin/gopher-lua.lValueNames"], apart := false, laid := [("github.com/yuin/gopher-lua.lValueNames", laid_github_com_yuin_gopher_lua_lValueNames)] }
def FnNilStringAgreesWithTypeNameSaid : Prop := fnNilStringAgreesWithTypeNameRow.holds Tryd.pinned (OpenSpec.ofChange fnNilStringAgreesWithTypeNameSpec)

/-- ITS FALSE NEIGHBOUR: 'it returns false'. Refute it at one input. -/
def fnNilStringAgreesWithTypeNameWrong : ChangeSpec := { name := "fnNilStringAgreesWithTypeName", vars := ["github.com/yuin/gopher-lua.lValueNames"], fn := fun _ => fun
  | [d, g1] => { results := [.lit (.bool false)], args := [d], vars := [g1] }
  | _ => none }
def FnNilStringAgreesWithTypeNameWrongFalsely : Prop := fnNilStringAgreesWithTypeNameRow.holds Tryd.pinned (OpenSpec.ofChange fnNilStringAgreesWithTypeNameWrong)

/-- 'n005_113.FnTypeTagNameAgrees': WHATEVER THE INPUT: true; the input reads as it did. -/
def fnTypeTagNameAgreesSpec : ChangeSpec := { name := "fnTypeTagNameAgrees", vars := ["github.com/yuin/gopher-lua.lValueNames"], fn := fun _ => fun
  | [d1, d2, d3, d4, g1] => { results := [.lit (.bool true)], args := [d1, d2, d3, d4], vars := [g1] }
  | _ => none }
def fnTypeTagNameAgreesRow : OpenClaim := { program := "ytekfficjacnefabdoor", sum := "c24ebbe93783815d54b5664b613c354cb96b41b44960edd4a9df391f920aedab", func := "github.com/yuin/gopher-lua/n005_113.FnTypeTagNameAgrees", spec := "fnTypeTagNameAgrees", named := ["github.com/yuin/gopher-lua.lValueNames"], apart := false, laid := [("github.com/yuin/gopher-lua.lValueNames", laid_github_com_yuin_gopher_lua_lValueNames)] }
def FnTypeTagNameAgreesSaid : Prop := fnTypeTagNameAgreesRow.holds Tryd.pinned (OpenSpec.ofChange fnTypeTagNameAgreesSpec)

/-- ITS FALSE NEIGHBOUR: 'it returns false'. Refute it at one input. -/
def fnTypeTagNameAgreesWrong : ChangeSpec := { name := "fnTypeTagNameAgrees", vars := ["github.com/yuin/gopher-lua.lValueNames"], fn := fun _ => fun
  | [d1, d2, d3, d4, g1] => { results := [.lit (.bool false)], args := [d1, d2, d3, d4], vars := [g1] }
  | _ => none }
def FnTypeTagNameAgreesWrongFalsely : Prop := fnTypeTagNameAgreesRow.holds Tryd.pinned (OpenSpec.ofChange fnTypeTagNameAgreesWrong)

/- THE SECOND FORM. 'bulk': how many values and letters a reading holds, each counted each time it is reached (what is shared counts as often as it is met; a slice's spare places count too). A statement '..UptoSaid' is the law's where the arguments, and the package variables that the reading takes, are together of bulk at most 1048576: NARROWER than '..Said'. Prove '..Said' where nothing that the law and all that it calls make is longer than what came in: it says more and counts as full. Else prove '..UptoSaid'. A law counts once. -/
mutual
def uptoBulk {H : Type} : DataW H → Nat
  | .lit (.string bytes) => bytes.length + 1
  | .lit _ => 1
  | .nil => 1
  | .ptr d => uptoBulk d + 1
  | .slice elems spare => uptoBulkAll elems + uptoBulkAll spare + 1
  | .agg parts => uptoBulkAll parts + 1
  | .iface _ d => uptoBulk d + 1
  | .map entries => uptoBulkEntries entries + 1
  | .held _ => 1
def uptoBulkAll {H : Type} : List (DataW H) → Nat
  | [] => 0
  | d :: r => uptoBulk d + uptoBulkAll r
def uptoBulkEntries {H : Type} : List (Lit × DataW H) → Nat
  | [] => 0
  | x :: r => uptoBulkEntry x + uptoBulkEntries r
def uptoBulkEntry {H : Type} : Lit × DataW H → Nat
  | (.string bytes, d) => bytes.length + uptoBulk d + 1
  | (_, d) => uptoBulk d + 1
 end
def uptoSmall : (H : Type) → List (DataW H) → Bool := fun _ ds => decide (uptoBulkAll ds ≤ 1048576)
def OpenSpec.upto (s : _root_.Go.ChangeSpec) : _root_.Go.OpenSpec := { _root_.Go.OpenSpec.ofChange s with cond := some uptoSmall }

/-- 'n005_114.FnNilStringAgreesWithTypeName', WHERE WHAT IT READS IS OF BULK AT MOST 1048576: true; the input reads as it did. -/
def fnNilStringAgreesWithTypeNameUptoRow : OpenClaim := { program := "ytekfficjacnefabdoor", sum := "c24ebbe93783815d54b5664b613c354cb96b41b44960edd4a9df391f920aedab", func := "github.com/yuin/gopher-lua/n005_114.FnNilStringAgreesWithTypeName", spec := "fnNilStringAgreesWithTypeName", named := ["github.com/yuin/gopher-lua.lValueNames"], apart := false, laid := [("github.com/yuin/gopher-lua.lValueNames", laid_github_com_yuin_gopher_lua_lValueNames)], narrowed := true }
def FnNilStringAgreesWithTypeNameUptoSaid : Prop := fnNilStringAgreesWithTypeNameUptoRow.holds Tryd.pinned (OpenSpec.upto fnNilStringAgreesWithTypeNameSpec)

/-- 'n005_113.FnTypeTagNameAgrees', WHERE WHAT IT READS IS OF BULK AT MOST 1048576: true; the input reads as it did. -/
def fnTypeTagNameAgreesUptoRow : OpenClaim := { program := "ytekfficjacnefabdoor", sum := "c24ebbe93783815d54b5664b613c354cb96b41b44960edd4a9df391f920aedab", func := "github.com/yuin/gopher-lua/n005_113.FnTypeTagNameAgrees", spec := "fnTypeTagNameAgrees", named := ["github.com/yuin/gopher-lua.lValueNames"], apart := false, laid := [("github.com/yuin/gopher-lua.lValueNames", laid_github_com_yuin_gopher_lua_lValueNames)], narrowed := true }
def FnTypeTagNameAgreesUptoSaid : Prop := fnTypeTagNameAgreesUptoRow.holds Tryd.pinned (OpenSpec.upto fnTypeTagNameAgreesSpec)

end Rows
end Go.Proofs.YtekfficjacnefabDoor
