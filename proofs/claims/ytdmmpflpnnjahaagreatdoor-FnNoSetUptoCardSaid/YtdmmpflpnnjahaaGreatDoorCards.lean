/-
  DERIVED. GIVEN WITH THE SEED: THE CARDS: each row of YtdmmpflpnnjahaaGreatDoorRows.lean that lists a variable, with what it lists TIED to the program's text (the seventh form; the later family's looks); each row that meets fmt, with fmt's text TOLD by the authors' own Lean function (tested against real Go, not proved from fmt's source: count such statements apart). THE CARD IS WHAT COUNTS. Prove the row's statement (the work); the ties are given (YtdmmpflpnnjahaaGreatDoorTie.lean); close each card by the builder's one call (the guide's Derived/Test/ToyasCard.lean, 'card_holds'). Laid BY PROGRAM, IN A SANDBOX (cutbox-door.mjs). By AI agents, Wed Nov 11 2026. No macro, syntax, notation, axiom, sorry.
-/
import Derived.Test.YtdmmpflpnnjahaaGreatDoorRows
import GoSem.ClaimSeven
namespace Go.Proofs.YtdmmpflpnnjahaaGreatDoor
namespace Rows

/-- THE TIED CARD OF 'laws.FnNoSet'. -/
def fnNoSetCard : Claim7 := { stood := { row := fnNoSetRow, standIns := [], harness := (true, "c5249717ee4dd19ff2517537e7a26ca2c5fd78ecca848e25b67545d4475b5684"), looks := true }, kinds := [], alts := [], laidByText := true, laidKinds := [.data, .data, .data, .data, .pinned, .pinned, .pinned], laidTests := true, laidLooks := .later }
def FnNoSetCardSaid : Prop := Claim7.holds Tryz.pinned (.plain (OpenSpec.ofChange fnNoSetSpec)) fnNoSetCard

/-- THE TIED CARD OF 'laws.FnSetLookup'. -/
def fnSetLookupCard : Claim7 := { stood := { row := fnSetLookupRow, standIns := [], harness := (true, "c5249717ee4dd19ff2517537e7a26ca2c5fd78ecca848e25b67545d4475b5684"), looks := true }, kinds := [], alts := [], laidByText := true, laidKinds := [.data, .data, .data, .data, .pinned, .pinned, .pinned], laidTests := true, laidLooks := .later }
def FnSetLookupCardSaid : Prop := Claim7.holds Tryz.pinned (.plain (OpenSpec.ofChange fnSetLookupSpec)) fnSetLookupCard

/-- THE TIED CARD OF 'laws.FnEmbeddedInterface'. -/
def fnEmbeddedInterfaceCard : Claim7 := { stood := { row := fnEmbeddedInterfaceRow, standIns := [], harness := (true, "c5249717ee4dd19ff2517537e7a26ca2c5fd78ecca848e25b67545d4475b5684"), looks := true }, kinds := [], alts := [], laidByText := true, laidKinds := [.data, .data, .data, .data, .pinned, .pinned, .pinned], laidTests := true, laidLooks := .later }
def FnEmbeddedInterfaceCardSaid : Prop := Claim7.holds Tryz.pinned (.plain (OpenSpec.ofChange fnEmbeddedInterfaceSpec)) fnEmbeddedInterfaceCard

/-- THE TIED CARD OF 'laws.FnInterface'. -/
def fnInterfaceCard : Claim7 := { stood := { row := fnInterfaceRow, standIns := [], harness := (true, "c5249717ee4dd19ff2517537e7a26ca2c5fd78ecca848e25b67545d4475b5684"), looks := true }, kinds := [], alts := [], laidByText := true, laidKinds := [.data, .data, .data, .data, .pinned, .pinned, .pinned], laidTests := true, laidLooks := .later }
def FnInterfaceCardSaid : Prop := Claim7.holds Tryz.pinned (.plain (OpenSpec.ofChange fnInterfaceSpec)) fnInterfaceCard

/-- THE SECOND FORM's CARD OF 'laws.FnNoSet'. -/
def fnNoSetUptoCard : Claim7 := { stood := { row := fnNoSetUptoRow, standIns := [], harness := (true, "c5249717ee4dd19ff2517537e7a26ca2c5fd78ecca848e25b67545d4475b5684"), looks := true }, kinds := [], alts := [], laidByText := true, laidKinds := [.data, .data, .data, .data, .pinned, .pinned, .pinned], laidTests := true, laidLooks := .later }
def FnNoSetUptoCardSaid : Prop := Claim7.holds Tryz.pinned (.plain (OpenSpec.upto fnNoSetSpec)) fnNoSetUptoCard

/-- THE SECOND FORM's CARD OF 'laws.FnSetLookup'. -/
def fnSetLookupUptoCard : Claim7 := { stood := { row := fnSetLookupUptoRow, standIns := [], harness := (true, "c5249717ee4dd19ff2517537e7a26ca2c5fd78ecca848e25b67545d4475b5684"), looks := true }, kinds := [], alts := [], laidByText := true, laidKinds := [.data, .data, .data, .data, .pinned, .pinned, .pinned], laidTests := true, laidLooks := .later }
def FnSetLookupUptoCardSaid : Prop := Claim7.holds Tryz.pinned (.plain (OpenSpec.upto fnSetLookupSpec)) fnSetLookupUptoCard

/-- THE SECOND FORM's CARD OF 'laws.FnEmbeddedInterface'. -/
def fnEmbeddedInterfaceUptoCard : Claim7 := { stood := { row := fnEmbeddedInterfaceUptoRow, standIns := [], harness := (true, "c5249717ee4dd19ff2517537e7a26ca2c5fd78ecca848e25b67545d4475b5684"), looks := true }, kinds := [], alts := [], laidByText := true, laidKinds := [.data, .data, .data, .data, .pinned, .pinned, .pinned], laidTests := true, laidLooks := .later }
def FnEmbeddedInterfaceUptoCardSaid : Prop := Claim7.holds Tryz.pinned (.plain (OpenSpec.upto fnEmbeddedInterfaceSpec)) fnEmbeddedInterfaceUptoCard

/-- THE SECOND FORM's CARD OF 'laws.FnInterface'. -/
def fnInterfaceUptoCard : Claim7 := { stood := { row := fnInterfaceUptoRow, standIns := [], harness := (true, "c5249717ee4dd19ff2517537e7a26ca2c5fd78ecca848e25b67545d4475b5684"), looks := true }, kinds := [], alts := [], laidByText := true, laidKinds := [.data, .data, .data, .data, .pinned, .pinned, .pinned], laidTests := true, laidLooks := .later }
def FnInterfaceUptoCardSaid : Prop := Claim7.holds Tryz.pinned (.plain (OpenSpec.upto fnInterfaceSpec)) fnInterfaceUptoCard
end Rows
end Go.Proofs.YtdmmpflpnnjahaaGreatDoor
