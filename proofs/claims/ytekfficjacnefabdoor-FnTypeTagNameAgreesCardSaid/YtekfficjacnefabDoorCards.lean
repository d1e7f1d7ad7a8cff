/-
  DERIVED. GIVEN WITH THE SEED: THE CARDS: each row of YtekfficjacnefabDoorRows.lean that lists a variable, with what it lists TIED to the program's text (the seventh form; the later family's looks); each row that meets fmt, with fmt's text TOLD by the authors' own Lean function (tested against real Go, not proved from fmt's source: count such statements apart). THE CARD IS WHAT COUNTS. Prove the row's statement (the work); the ties are given (YtekfficjacnefabDoorTie.lean); close each card by the builder's one call (the guide's Derived/Test/ToyasCard.lean, 'card_holds'). Laid BY PROGRAM, IN A SANDBOX (cutbox-door.mjs). By AI agents, Wed Nov 11 2026. No macro, syntax, notation, axiom, sorry.
-/
import Derived.Test.YtekfficjacnefabDoorRows
import GoSem.ClaimSeven
namespace Go.Proofs.YtekfficjacnefabDoor
namespace Rows

/-- THE TIED CARD OF 'n005_114.FnNilStringAgreesWithTypeName'. -/
def fnNilStringAgreesWithTypeNameCard : Claim7 := { stood := { row := fnNilStringAgreesWithTypeNameRow, standIns := [], harness := (true, "28234d8f26a96ee3444391dec5ee2a709c868c188cf1493803c771db5fc90ec7"), looks := false }, kinds := [], alts := [], laidByText := true, laidKinds := [.data], laidTests := true, laidLooks := .later }
def FnNilStringAgreesWithTypeNameCardSaid : Prop := Claim7.holds Tryd.pinned (.plain (OpenSpec.ofChange fnNilStringAgreesWithTypeNameSpec)) fnNilStringAgreesWithTypeNameCard

/-- THE TIED CARD OF 'n005_113.FnTypeTagNameAgrees'. -/
def fnTypeTagNameAgreesCard : Claim7 := { stood := { row := fnTypeTagNameAgreesRow, standIns := [], harness := (true, "28234d8f26a96ee3444391dec5ee2a709c868c188cf1493803c771db5fc90ec7"), looks := false }, kinds := [], alts := [], laidByText := true, laidKinds := [.data], laidTests := true, laidLooks := .later }
def FnTypeTagNameAgreesCardSaid : Prop := Claim7.holds Tryd.pinned (.plain (OpenSpec.ofChange fnTypeTagNameAgreesSpec)) fnTypeTagNameAgreesCard

/-- THE SECOND FORM's CARD OF 'n005_114.FnNilStringAgreesWithTypeName'. -/
def fnNilStringAgreesWithTypeNameUptoCard : Claim7 := { stood := { row := fnNilStringAgreesWithTypeNameUptoRow, standIns := [], harness := (true, "28234d8f26a96ee3444391dec5ee2a709c868c188cf1493803c771db5fc90ec7"), looks := false }, kinds := [], alts := [], laidByText := true, laidKinds := [.data], laidTests := true, laidLooks := .later }
def FnNilStringAgreesWithTypeNameUptoCardSaid : Prop := Claim7.holds Tryd.pinned (.plain (OpenSpec.upto fnNilStringAgreesWithTypeNameSpec)) fnNilStringAgreesWithTypeNameUptoCard

/-- THE SECOND FORM's CARD OF 'n005_113.FnTypeTagNameAgrees'. -/
def fnTypeTagNameAgreesUptoCard : Claim7 := { stood := { row := fnTypeTagNameAgreesUptoRow, standIns := [], harness := (true, "28234d8f26a96ee3444391dec5ee2a709c868c188cf1493803c771db5fc90ec7"), looks := false }, kinds := [], alts := [], laidByText := true, laidKinds := [.data], laidTests := true, laidLooks := .later }
def FnTypeTagNameAgreesUptoCardSaid : Prop := Claim7.holds Tryd.pinned (.plain (OpenSpec.upto fnTypeTagNameAgreesSpec)) fnTypeTagNameAgreesUptoCard
end Rows
end Go.Proofs.YtekfficjacnefabDoor
