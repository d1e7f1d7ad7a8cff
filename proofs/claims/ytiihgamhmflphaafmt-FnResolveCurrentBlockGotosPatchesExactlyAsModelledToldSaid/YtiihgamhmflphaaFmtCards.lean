/-
  DERIVED. GIVEN WITH THE SEED: THE CARDS: each row of YtiihgamhmflphaaFmtRows.lean that lists a variable, with what it lists TIED to the program's text (the seventh form; the later family's looks); each row that meets fmt, with fmt's text TOLD by the authors' own Lean function (tested against real Go, not proved from fmt's source: count such statements apart). THE CARD IS WHAT COUNTS. Prove the row's statement (the work); the ties are given (YtiihgamhmflphaaFmtTie.lean); close each card by the builder's one call (the guide's Derived/Test/ToyasCard.lean, 'card_holds'). Laid BY PROGRAM, IN A SANDBOX (cutbox-door.mjs). By AI agents, Wed Nov 11 2026. No macro, syntax, notation, axiom, sorry.
-/
import Derived.Test.YtiihgamhmflphaaFmtRows
import GoSem.ClaimSeven
namespace Go.Proofs.YtiihgamhmflphaaFmt
namespace Rows

/-- THE TOLD CARD OF 'n005_116.FnResolveForwardGotoResolvesExactlyTheNamedGotos'. -/
def fnResolveForwardGotoResolvesExactlyTheNamedGotosCard : Claim7 := { stood := { row := fnResolveForwardGotoResolvesExactlyTheNamedGotosRow, standIns := [], harness := (true, "0858e9c1afab50ebb5166601971a7073da0660f3eecd76041f90367296728e72"), looks := false }, told := true, goes := false }
def FnResolveForwardGotoResolvesExactlyTheNamedGotosToldSaid : Prop := Claim7.holds Tryf.pinned (.plain (OpenSpec.ofChange fnResolveForwardGotoResolvesExactlyTheNamedGotosSpec)) fnResolveForwardGotoResolvesExactlyTheNamedGotosCard
/-- ITS FALSE NEIGHBOUR. Refute it at one input. -/
def FnResolveForwardGotoResolvesExactlyTheNamedGotosToldWrongFalsely : Prop := Claim7.holds Tryf.pinned (.plain (OpenSpec.ofChange fnResolveForwardGotoResolvesExactlyTheNamedGotosWrong)) fnResolveForwardGotoResolvesExactlyTheNamedGotosCard

/-- THE TOLD CARD OF 'n005_116.FnResolveCurrentBlockGotosPatchesExactlyAsModelled'. -/
def fnResolveCurrentBlockGotosPatchesExactlyAsModelledCard : Claim7 := { stood := { row := fnResolveCurrentBlockGotosPatchesExactlyAsModelledRow, standIns := [], harness := (true, "0858e9c1afab50ebb5166601971a7073da0660f3eecd76041f90367296728e72"), looks := false }, told := true, goes := false }
def FnResolveCurrentBlockGotosPatchesExactlyAsModelledToldSaid : Prop := Claim7.holds Tryf.pinned (.plain (OpenSpec.ofChange fnResolveCurrentBlockGotosPatchesExactlyAsModelledSpec)) fnResolveCurrentBlockGotosPatchesExactlyAsModelledCard
/-- ITS FALSE NEIGHBOUR. Refute it at one input. -/
def FnResolveCurrentBlockGotosPatchesExactlyAsModelledToldWrongFalsely : Prop := Claim7.holds Tryf.pinned (.plain (OpenSpec.ofChange fnResolveCurrentBlockGotosPatchesExactlyAsModelledWrong)) fnResolveCurrentBlockGotosPatchesExactlyAsModelledCard

/-- THE TOLD CARD OF 'n005_116.FnResolveForwardGotoIsIdempotent'. -/
def fnResolveForwardGotoIsIdempotentCard : Claim7 := { stood := { row := fnResolveForwardGotoIsIdempotentRow, standIns := [], harness := (true, "0858e9c1afab50ebb5166601971a7073da0660f3eecd76041f90367296728e72"), looks := false }, told := true, goes := false }
def FnResolveForwardGotoIsIdempotentToldSaid : Prop := Claim7.holds Tryf.pinned (.plain (OpenSpec.ofChange fnResolveForwardGotoIsIdempotentSpec)) fnResolveForwardGotoIsIdempotentCard
/-- ITS FALSE NEIGHBOUR. Refute it at one input. -/
def FnResolveForwardGotoIsIdempotentToldWrongFalsely : Prop := Claim7.holds Tryf.pinned (.plain (OpenSpec.ofChange fnResolveForwardGotoIsIdempotentWrong)) fnResolveForwardGotoIsIdempotentCard

/-- THE TOLD CARD OF 'n005_116.FnResolveCurrentBlockGotosIsIdempotent'. -/
def fnResolveCurrentBlockGotosIsIdempotentCard : Claim7 := { stood := { row := fnResolveCurrentBlockGotosIsIdempotentRow, standIns := [], harness := (true, "0858e9c1afab50ebb5166601971a7073da0660f3eecd76041f90367296728e72"), looks := false }, told := true, goes := false }
def FnResolveCurrentBlockGotosIsIdempotentToldSaid : Prop := Claim7.holds Tryf.pinned (.plain (OpenSpec.ofChange fnResolveCurrentBlockGotosIsIdempotentSpec)) fnResolveCurrentBlockGotosIsIdempotentCard
/-- ITS FALSE NEIGHBOUR. Refute it at one input. -/
def FnResolveCurrentBlockGotosIsIdempotentToldWrongFalsely : Prop := Claim7.holds Tryf.pinned (.plain (OpenSpec.ofChange fnResolveCurrentBlockGotosIsIdempotentWrong)) fnResolveCurrentBlockGotosIsIdempotentCard
end Rows
end Go.Proofs.YtiihgamhmflphaaFmt
