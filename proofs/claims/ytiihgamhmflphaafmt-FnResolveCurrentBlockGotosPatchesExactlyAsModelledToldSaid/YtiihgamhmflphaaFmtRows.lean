/-
  No cell of these rows narrows 'for every input' (looked for: loops, veiled, ifaces, maps, wideKeys, modest, calm, conditions, laid).
  DERIVED. THE GIVEN ROWS OF THIS SEAT. 4 by the template 'for every input the law returns true; each argument reads behind the call as it read before'; 0 by the template 'total and deterministic' (their statements: YtiihgamhmflphaaFmtTotals.lean).
  GIVEN WITH THE SEED: the statements are not yours to turn. If you find one false, say at which input.
  Laid BY PROGRAM, IN A SANDBOX (cutbox-rows.mjs): the forced cells as the released guide's own fill.sh prints them over the translation 6067d63a6ea11adc… (all of the seat's roots in one cut). By AI agents, Wed Nov 11 2026. No macro, syntax, notation, axiom, sorry.
-/
import Derived.Test.YtiihgamhmflphaaFmtChecked
import GoSem.Claim
import GoSem.ClaimJoined
import GoSem.ClaimMapViews
import Derived.JoinedTies
import Derived.KernelRfl
namespace Go.Proofs.YtiihgamhmflphaaFmt
/- THE CELL 'sum', in the pinned program and in every row, IS THE sha256 OF THE DUMP (.gsa) THAT YtiihgamhmflphaaFmtProg.lean LOADS. Nothing in Lean hashes anything: it is a label: what it is worth is what the hold of that sum in a sandbox is worth. -/
noncomputable def Tryf.pinned : Pinned := { name := "ytiihgamhmflphaafmt", sum := "6067d63a6ea11adcfb438893b612d1e3e0b6e38a78805e9cce42db3613c56392", checked := Tryf.checked }
namespace Rows
def none {H : Type} : Left H := { results := [], args := [] }

/-- 'n005_116.FnResolveForwardGotoResolvesExactlyTheNamedGotos': WHATEVER THE INPUT: true; the input reads as it did. -/
def fnResolveForwardGotoResolvesExactlyTheNamedGotosSpec : ChangeSpec := { name := "fnResolveForwardGotoResolvesExactlyTheNamedGotos", fn := fun _ => fun
  | [d1, d2, d3, d4, d5, d6, d7, d8] => { results := [.lit (.bool true)], args := [d1, d2, d3, d4, d5, d6, d7, d8] }
  | _ => none }
def fnResolveForwardGotoResolvesExactlyTheNamedGotosRow : OpenClaim := { program := "ytiihgamhmflphaafmt", sum := "6067d63a6ea11adcfb438893b612d1e3e0b6e38a78805e9cce42db3613c56392", func := "github.com/yuin/gopher-lua/n005_116.FnResolveForwardGotoResolvesExactlyTheNamedGotos", spec := "fnResolveForwardGotoResolvesExactlyTheNamedGotos", stops := ["fmt.Sprintf, its operands' methods called"], inPlace := ["fmt.Sprintf"], unfollowed := true, recurses := true, apart := false }
/-- NO THEOREM (fmt's text is open here; it may be false): for the released tool's asking of the row's closed facts alone. THE STATEMENT IS 'FnResolveForwardGotoResolvesExactlyTheNamedGotosToldSaid' (YtiihgamhmflphaaFmtCards.lean). -/
def FnResolveForwardGotoResolvesExactlyTheNamedGotosFormAsk : Prop := fnResolveForwardGotoResolvesExactlyTheNamedGotosRow.holds Tryf.pinned (OpenSpec.ofChange fnResolveForwardGotoResolvesExactlyTheNamedGotosSpec)

/-- ITS FALSE NEIGHBOUR: 'it returns false'. Refute it at one input. -/
def fnResolveForwardGotoResolvesExactlyTheNamedGotosWrong : ChangeSpec := { name := "fnResolveForwardGotoResolvesExactlyTheNamedGotos", fn := fun _ => fun
  | [d1, d2, d3, d4, d5, d6, d7, d8] => { results := [.lit (.bool false)], args := [d1, d2, d3, d4, d5, d6, d7, d8] }
  | _ => none }
def FnResolveForwardGotoResolvesExactlyTheNamedGotosWrongFormAsk : Prop := fnResolveForwardGotoResolvesExactlyTheNamedGotosRow.holds Tryf.pinned (OpenSpec.ofChange fnResolveForwardGotoResolvesExactlyTheNamedGotosWrong)

/-- 'n005_116.FnResolveCurrentBlockGotosPatchesExactlyAsModelled': WHATEVER THE INPUT: true; the input reads as it did. -/
def fnResolveCurrentBlockGotosPatchesExactlyAsModelledSpec : ChangeSpec := { name := "fnResolveCurrentBlockGotosPatchesExactlyAsModelled", fn := fun _ => fun
  | [d1, d2, d3, d4, d5, d6, d7, d8, d9, d10, d11, d12] => { results := [.lit (.bool true)], args := [d1, d2, d3, d4, d5, d6, d7, d8, d9, d10, d11, d12] }
  | _ => none }
def fnResolveCurrentBlockGotosPatchesExactlyAsModelledRow : OpenClaim := { program := "ytiihgamhmflphaafmt", sum := "6067d63a6ea11adcfb438893b612d1e3e0b6e38a78805e9cce42db3613c56392", func := "github.com/yuin/gopher-lua/n005_116.FnResolveCurrentBlockGotosPatchesExactlyAsModelled", spec := "fnResolveCurrentBlockGotosPatchesExactlyAsModelled", stops := ["fmt.Sprintf, its operands' methods called"], inPlace := ["fmt.Sprintf"], unfollowed := true, recurses := true, apart := false }
/-- NO THEOREM (fmt's text is open here; it may be false): for the released tool's asking of the row's closed facts alone. THE STATEMENT IS 'FnResolveCurrentBlockGotosPatchesExactlyAsModelledToldSaid' (YtiihgamhmflphaaFmtCards.lean). -/
def FnResolveCurrentBlockGotosPatchesExactlyAsModelledFormAsk : Prop := fnResolveCurrentBlockGotosPatchesExactlyAsModelledRow.holds Tryf.pinned (OpenSpec.ofChange fnResolveCurrentBlockGotosPatchesExactlyAsModelledSpec)

/-- ITS FALSE NEIGHBOUR: 'it returns false'. Refute it at one input. -/
def fnResolveCurrentBlockGotosPatchesExactlyAsModelledWrong : ChangeSpec := { name := "fnResolveCurrentBlockGotosPatchesExactlyAsModelled", fn := fun _ => fun
  | [d1, d2, d3, d4, d5, d6, d7, d8, d9, d10, d11, d12] => { results := [.lit (.bool false)], args := [d1, d2, d3, d4, d5, d6, d7, d8, d9, d10, d11, d12] }
  | _ => none }
def FnResolveCurrentBlockGotosPatchesExactlyAsModelledWrongFormAsk : Prop := fnResolveCurrentBlockGotosPatchesExactlyAsModelledRow.holds Tryf.pinned (OpenSpec.ofChange fnResolveCurrentBlockGotosPatchesExactlyAsModelledWrong)

/-- 'n005_116.FnResolveForwardGotoIsIdempotent': WHATEVER THE INPUT: true; the input reads as it did. -/
def fnResolveForwardGotoIsIdempotentSpec : ChangeSpec := { name := "fnResolveForwardGotoIsIdempotent", fn := fun _ => fun
  | [d1, d2, d3, d4, d5, d6, d7, d8] => { results := [.lit (.bool true)], args := [d1, d2, d3, d4, d5, d6, d7, d8] }
  | _ => none }
def fnResolveForwardGotoIsIdempotentRow : OpenClaim := { program := "ytiihgamhmflphaafmt", sum := "6067d63a6ea11adcfb438893b612d1e3e0b6e38a78805e9cce42db3613c56392", func := "github.com/yuin/gopher-lua/n005_116.FnResolveForwardGotoIsIdempotent", spec := "fnResolveForwardGotoIsIdempotent", stops := ["fmt.Sprintf, its operands' methods called"], inPlace := ["fmt.Sprintf"], unfollowed := true, recurses := true, apart := false }
/-- NO THEOREM (fmt's text is open here; it may be false): for the released tool's asking of the row's closed facts alone. THE STATEMENT IS 'FnResolveForwardGotoIsIdempotentToldSaid' (YtiihgamhmflphaaFmtCards.lean). -/
def FnResolveForwardGotoIsIdempotentFormAsk : Prop := fnResolveForwardGotoIsIdempotentRow.holds Tryf.pinned (OpenSpec.ofChange fnResolveForwardGotoIsIdempotentSpec)

/-- ITS FALSE NEIGHBOUR: 'it returns false'. Refute it at one input. -/
def fnResolveForwardGotoIsIdempotentWrong : ChangeSpec := { name := "fnResolveForwardGotoIsIdempotent", fn := fun _ => fun
  | [d1, d2, d3, d4, d5, d6, d7, d8] => { results := [.lit (.bool false)], args := [d1, d2, d3, d4, d5, d6, d7, d8] }
  | _ => none }
def FnResolveForwardGotoIsIdempotentWrongFormAsk : Prop := fnResolveForwardGotoIsIdempotentRow.holds Tryf.pinned (OpenSpec.ofChange fnResolveForwardGotoIsIdempotentWrong)

/-- 'n005_116.FnResolveCurrentBlockGotosIsIdempotent': WHATEVER THE INPUT: true; the input reads as it did. -/
def fnResolveCurrentBlockGotosIsIdempotentSpec : ChangeSpec := { name := "fnResolveCurrentBlockGotosIsIdempotent", fn := fun _ => fun
  | [d1, d2, d3, d4, d5, d6, d7, d8, d9, d10, d11, d12] => { results := [.lit (.bool true)], args := [d1, d2, d3, d4, d5, d6, d7, d8, d9, d10, d11, d12] }
  | _ => none }
def fnResolveCurrentBlockGotosIsIdempotentRow : OpenClaim := { program := "ytiihgamhmflphaafmt", sum := "6067d63a6ea11adcfb438893b612d1e3e0b6e38a78805e9cce42db3613c56392", func := "github.com/yuin/gopher-lua/n005_116.FnResolveCurrentBlockGotosIsIdempotent", spec := "fnResolveCurrentBlockGotosIsIdempotent", stops := ["fmt.Sprintf, its operands' methods called"], inPlace := ["fmt.Sprintf"], unfollowed := true, recurses := true, apart := false }
/-- NO THEOREM (fmt's text is open here; it may be false): for the released tool's asking of the row's closed facts alone. THE STATEMENT IS 'FnResolveCurrentBlockGotosIsIdempotentToldSaid' (YtiihgamhmflphaaFmtCards.lean). -/
def FnResolveCurrentBlockGotosIsIdempotentFormAsk : Prop := fnResolveCurrentBlockGotosIsIdempotentRow.holds Tryf.pinned (OpenSpec.ofChange fnResolveCurrentBlockGotosIsIdempotentSpec)

/-- ITS FALSE NEIGHBOUR: 'it returns false'. Refute it at one input. -/
def fnResolveCurrentBlockGotosIsIdempotentWrong : ChangeSpec := { name := "fnResolveCurrentBlockGotosIsIdempotent", fn := fun _ => fun
  | [d1, d2, d3, d4, d5, d6, d7, d8, d9, d10, d11, d12] => { results := [.lit (.bool false)], args := [d1, d2, d3, d4, d5, d6, d7, d8, d9, d10, d11, d12] }
  | _ => none }
def FnResolveCurrentBlockGotosIsIdempotentWrongFormAsk : Prop := fnResolveCurrentBlockGotosIsIdempotentRow.holds Tryf.pinned (OpenSpec.ofChange fnResolveCurrentBlockGotosIsIdempotentWrong)

end Rows
end Go.Proofs.YtiihgamhmflphaaFmt
