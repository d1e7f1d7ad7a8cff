/-
  DERIVED. GIVEN WITH THE SEED: THE CARDS: each row of YtekfficjacnefaaDoorRows.lean that lists a variable, with what it lists TIED to the program's text (the seventh form; the later family's looks); each row that meets fmt, with fmt's text TOLD by the authors' own Lean function (tested against real Go, not proved from fmt's source: count such statements apart). THE CARD IS WHAT COUNTS. Prove the row's statement (the work); the ties are given (YtekfficjacnefaaDoorTie.lean); close each card by the builder's one call (the guide's Derived/Test/ToyasCard.lean, 'card_holds'). Laid BY PROGRAM, IN A SANDBOX (cutbox-door.mjs). By AI agents, Wed Nov 11 2026. No macro, syntax, notation, axiom, sorry.
-/
import Derived.Test.YtekfficjacnefaaDoorRows
import GoSem.ClaimSeven
namespace Go.Proofs.YtekfficjacnefaaDoor
namespace Rows

/-- THE TIED CARD OF 'n005_10.FnIsArrayKeyOnIntegers'. -/
def fnIsArrayKeyOnIntegersCard : Claim7 := { stood := { row := fnIsArrayKeyOnIntegersRow, standIns := [], harness := (true, "e3c7445677ff99640fdd3a4cfcd6f2418bde98b01568d8401a0680d3a54b3430"), looks := false }, kinds := [], alts := [], laidByText := true, laidKinds := [.data], laidTests := true, laidLooks := .later }
def FnIsArrayKeyOnIntegersCardSaid : Prop := Claim7.holds Tryd.pinned (.plain (OpenSpec.ofChange fnIsArrayKeyOnIntegersSpec)) fnIsArrayKeyOnIntegersCard

/-- THE TIED CARD OF 'n005_113.FnValueTypeStringTable'. -/
def fnValueTypeStringTableCard : Claim7 := { stood := { row := fnValueTypeStringTableRow, standIns := [], harness := (true, "e3c7445677ff99640fdd3a4cfcd6f2418bde98b01568d8401a0680d3a54b3430"), looks := false }, kinds := [], alts := [], laidByText := true, laidKinds := [.data], laidTests := true, laidLooks := .later }
def FnValueTypeStringTableCardSaid : Prop := Claim7.holds Tryd.pinned (.plain (OpenSpec.ofChange fnValueTypeStringTableSpec)) fnValueTypeStringTableCard

/-- THE TIED CARD OF 'n005_10.FnIsArrayKeyExact'. -/
def fnIsArrayKeyExactCard : Claim7 := { stood := { row := fnIsArrayKeyExactRow, standIns := [], harness := (true, "e3c7445677ff99640fdd3a4cfcd6f2418bde98b01568d8401a0680d3a54b3430"), looks := false }, kinds := [], alts := [], laidByText := true, laidKinds := [.data], laidTests := true, laidLooks := .later }
def FnIsArrayKeyExactCardSaid : Prop := Claim7.holds Tryd.pinned (.plain (OpenSpec.ofChange fnIsArrayKeyExactSpec)) fnIsArrayKeyExactCard

/-- THE SECOND FORM's CARD OF 'n005_10.FnIsArrayKeyOnIntegers'. -/
def fnIsArrayKeyOnIntegersUptoCard : Claim7 := { stood := { row := fnIsArrayKeyOnIntegersUptoRow, standIns := [], harness := (true, "e3c7445677ff99640fdd3a4cfcd6f2418bde98b01568d8401a0680d3a54b3430"), looks := false }, kinds := [], alts := [], laidByText := true, laidKinds := [.data], laidTests := true, laidLooks := .later }
def FnIsArrayKeyOnIntegersUptoCardSaid : Prop := Claim7.holds Tryd.pinned (.plain (OpenSpec.upto fnIsArrayKeyOnIntegersSpec)) fnIsArrayKeyOnIntegersUptoCard

/-- THE SECOND FORM's CARD OF 'n005_113.FnValueTypeStringTable'. -/
def fnValueTypeStringTableUptoCard : Claim7 := { stood := { row := fnValueTypeStringTableUptoRow, standIns := [], harness := (true, "e3c7445677ff99640fdd3a4cfcd6f2418bde98b01568d8401a0680d3a54b3430"), looks := false }, kinds := [], alts := [], laidByText := true, laidKinds := [.data], laidTests := true, laidLooks := .later }
def FnValueTypeStringTableUptoCardSaid : Prop := Claim7.holds Tryd.pinned (.plain (OpenSpec.upto fnValueTypeStringTableSpec)) fnValueTypeStringTableUptoCard

/-- THE SECOND FORM's CARD OF 'n005_10.FnIsArrayKeyExact'. -/
def fnIsArrayKeyExactUptoCard : Claim7 := { stood := { row := fnIsArrayKeyExactUptoRow, standIns := [], harness := (true, "e3c7445677ff99640fdd3a4cfcd6f2418bde98b01568d8401a0680d3a54b3430"), looks := false }, kinds := [], alts := [], laidByText := true, laidKinds := [.data], laidTests := true, laidLooks := .later }
def FnIsArrayKeyExactUptoCardSaid : Prop := Claim7.holds Tryd.pinned (.plain (OpenSpec.upto fnIsArrayKeyExactSpec)) fnIsArrayKeyExactUptoCard
end Rows
end Go.Proofs.YtekfficjacnefaaDoor
