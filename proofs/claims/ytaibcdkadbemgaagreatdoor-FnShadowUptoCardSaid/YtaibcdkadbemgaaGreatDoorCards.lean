/-
  DERIVED. GIVEN WITH THE SEED: THE CARDS: each row of YtaibcdkadbemgaaGreatDoorRows.lean that lists a variable, with what it lists TIED to the program's text (the seventh form; the later family's looks); each row that meets fmt, with fmt's text TOLD by the authors' own Lean function (tested against real Go, not proved from fmt's source: count such statements apart). THE CARD IS WHAT COUNTS. Prove the row's statement (the work); the ties are given (YtaibcdkadbemgaaGreatDoorTie.lean); close each card by the builder's one call (the guide's Derived/Test/ToyasCard.lean, 'card_holds'). Laid BY PROGRAM, IN A SANDBOX (cutbox-door.mjs). By AI agents, Wed Nov 11 2026. No macro, syntax, notation, axiom, sorry.
-/
import Derived.Test.YtaibcdkadbemgaaGreatDoorRows
import GoSem.ClaimSeven
namespace Go.Proofs.YtaibcdkadbemgaaGreatDoor
namespace Rows

/-- THE TIED CARD OF 'laws.FnWrap'. -/
def fnWrapCard : Claim7 := { stood := { row := fnWrapRow, standIns := [], harness := (true, "8737233b848de09518493915d52e9b61ab06692e6f9fbd6dbf977b98cdb9e0cf"), looks := true }, kinds := [], alts := [], laidByText := true, laidKinds := [.data, .data, .data, .data, .pinned, .pinned, .pinned], laidTests := true, laidLooks := .later }
def FnWrapCardSaid : Prop := Claim7.holds Tryz.pinned (.plain (OpenSpec.ofChange fnWrapSpec)) fnWrapCard

/-- THE TIED CARD OF 'laws.FnWrapPointer'. -/
def fnWrapPointerCard : Claim7 := { stood := { row := fnWrapPointerRow, standIns := [], harness := (true, "8737233b848de09518493915d52e9b61ab06692e6f9fbd6dbf977b98cdb9e0cf"), looks := true }, kinds := [], alts := [], laidByText := true, laidKinds := [.data, .data, .data, .data, .pinned, .pinned, .pinned], laidTests := true, laidLooks := .later }
def FnWrapPointerCardSaid : Prop := Claim7.holds Tryz.pinned (.plain (OpenSpec.ofChange fnWrapPointerSpec)) fnWrapPointerCard

/-- THE TIED CARD OF 'laws.FnShadow'. -/
def fnShadowCard : Claim7 := { stood := { row := fnShadowRow, standIns := [], harness := (true, "8737233b848de09518493915d52e9b61ab06692e6f9fbd6dbf977b98cdb9e0cf"), looks := true }, kinds := [], alts := [], laidByText := true, laidKinds := [.data, .data, .data, .data, .pinned, .pinned, .pinned], laidTests := true, laidLooks := .later }
def FnShadowCardSaid : Prop := Claim7.holds Tryz.pinned (.plain (OpenSpec.ofChange fnShadowSpec)) fnShadowCard

/-- THE SECOND FORM's CARD OF 'laws.FnWrap'. -/
def fnWrapUptoCard : Claim7 := { stood := { row := fnWrapUptoRow, standIns := [], harness := (true, "8737233b848de09518493915d52e9b61ab06692e6f9fbd6dbf977b98cdb9e0cf"), looks := true }, kinds := [], alts := [], laidByText := true, laidKinds := [.data, .data, .data, .data, .pinned, .pinned, .pinned], laidTests := true, laidLooks := .later }
def FnWrapUptoCardSaid : Prop := Claim7.holds Tryz.pinned (.plain (OpenSpec.upto fnWrapSpec)) fnWrapUptoCard

/-- THE SECOND FORM's CARD OF 'laws.FnWrapPointer'. -/
def fnWrapPointerUptoCard : Claim7 := { stood := { row := fnWrapPointerUptoRow, standIns := [], harness := (true, "8737233b848de09518493915d52e9b61ab06692e6f9fbd6dbf977b98cdb9e0cf"), looks := true }, kinds := [], alts := [], laidByText := true, laidKinds := [.data, .data, .data, .data, .pinned, .pinned, .pinned], laidTests := true, laidLooks := .later }
def FnWrapPointerUptoCardSaid : Prop := Claim7.holds Tryz.pinned (.plain (OpenSpec.upto fnWrapPointerSpec)) fnWrapPointerUptoCard

/-- THE SECOND FORM's CARD OF 'laws.FnShadow'. -/
def fnShadowUptoCard : Claim7 := { stood := { row := fnShadowUptoRow, standIns := [], harness := (true, "8737233b848de09518493915d52e9b61ab06692e6f9fbd6dbf977b98cdb9e0cf"), looks := true }, kinds := [], alts := [], laidByText := true, laidKinds := [.data, .data, .data, .data, .pinned, .pinned, .pinned], laidTests := true, laidLooks := .later }
def FnShadowUptoCardSaid : Prop := Claim7.holds Tryz.pinned (.plain (OpenSpec.upto fnShadowSpec)) fnShadowUptoCard
end Rows
end Go.Proofs.YtaibcdkadbemgaaGreatDoor
