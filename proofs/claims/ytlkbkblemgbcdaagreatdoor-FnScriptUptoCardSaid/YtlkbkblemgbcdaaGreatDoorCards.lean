/-
  DERIVED. GIVEN WITH THE SEED: THE CARDS: each row of YtlkbkblemgbcdaaGreatDoorRows.lean that lists a variable, with what it lists TIED to the program's text (the seventh form; the later family's looks); each row that meets fmt, with fmt's text TOLD by the authors' own Lean function (tested against real Go, not proved from fmt's source: count such statements apart). THE CARD IS WHAT COUNTS. Prove the row's statement (the work); the ties are given (YtlkbkblemgbcdaaGreatDoorTie.lean); close each card by the builder's one call (the guide's Derived/Test/ToyasCard.lean, 'card_holds'). Laid BY PROGRAM, IN A SANDBOX (cutbox-door.mjs). By AI agents, Wed Nov 11 2026. No macro, syntax, notation, axiom, sorry.
-/
import Derived.Test.YtlkbkblemgbcdaaGreatDoorRows
import GoSem.ClaimSeven
namespace Go.Proofs.YtlkbkblemgbcdaaGreatDoor
namespace Rows

/-- THE TIED CARD OF 'laws.FnAddressable'. -/
def fnAddressableCard : Claim7 := { stood := { row := fnAddressableRow, standIns := [], harness := (true, "e1f2e88cd1dc3e13e02cbf1463f74352b321c35aa8b70d62c3e2493c622f8daa"), looks := true }, kinds := [], alts := [], laidByText := true, laidKinds := [.data, .data, .data, .data, .pinned, .pinned, .pinned], laidTests := true, laidLooks := .later }
def FnAddressableCardSaid : Prop := Claim7.holds Tryz.pinned (.plain (OpenSpec.ofChange fnAddressableSpec)) fnAddressableCard

/-- THE TIED CARD OF 'laws.FnBlank'. -/
def fnBlankCard : Claim7 := { stood := { row := fnBlankRow, standIns := [], harness := (true, "e1f2e88cd1dc3e13e02cbf1463f74352b321c35aa8b70d62c3e2493c622f8daa"), looks := true }, kinds := [], alts := [], laidByText := true, laidKinds := [.data, .data, .data, .data, .pinned, .pinned, .pinned], laidTests := true, laidLooks := .later }
def FnBlankCardSaid : Prop := Claim7.holds Tryz.pinned (.plain (OpenSpec.ofChange fnBlankSpec)) fnBlankCard

/-- THE TIED CARD OF 'laws.FnDeclMethods'. -/
def fnDeclMethodsCard : Claim7 := { stood := { row := fnDeclMethodsRow, standIns := [], harness := (true, "e1f2e88cd1dc3e13e02cbf1463f74352b321c35aa8b70d62c3e2493c622f8daa"), looks := true }, kinds := [], alts := [], laidByText := true, laidKinds := [.data, .data, .data, .data, .pinned, .pinned, .pinned], laidTests := true, laidLooks := .later }
def FnDeclMethodsCardSaid : Prop := Claim7.holds Tryz.pinned (.plain (OpenSpec.ofChange fnDeclMethodsSpec)) fnDeclMethodsCard

/-- THE TIED CARD OF 'laws.FnScript'. -/
def fnScriptCard : Claim7 := { stood := { row := fnScriptRow, standIns := [], harness := (true, "e1f2e88cd1dc3e13e02cbf1463f74352b321c35aa8b70d62c3e2493c622f8daa"), looks := true }, kinds := [], alts := [], laidByText := true, laidKinds := [.data, .data, .data, .data, .pinned, .pinned, .pinned], laidTests := true, laidLooks := .later }
def FnScriptCardSaid : Prop := Claim7.holds Tryz.pinned (.plain (OpenSpec.ofChange fnScriptSpec)) fnScriptCard

/-- THE TIED CARD OF 'laws.FnSelection'. -/
def fnSelectionCard : Claim7 := { stood := { row := fnSelectionRow, standIns := [], harness := (true, "e1f2e88cd1dc3e13e02cbf1463f74352b321c35aa8b70d62c3e2493c622f8daa"), looks := true }, kinds := [], alts := [], laidByText := true, laidKinds := [.data, .data, .data, .data, .pinned, .pinned, .pinned], laidTests := true, laidLooks := .later }
def FnSelectionCardSaid : Prop := Claim7.holds Tryz.pinned (.plain (OpenSpec.ofChange fnSelectionSpec)) fnSelectionCard

/-- THE TIED CARD OF 'laws.FnPackages'. -/
def fnPackagesCard : Claim7 := { stood := { row := fnPackagesRow, standIns := [], harness := (true, "e1f2e88cd1dc3e13e02cbf1463f74352b321c35aa8b70d62c3e2493c622f8daa"), looks := true }, kinds := [], alts := [], laidByText := true, laidKinds := [.data, .data, .data, .data, .pinned, .pinned, .pinned], laidTests := true, laidLooks := .later }
def FnPackagesCardSaid : Prop := Claim7.holds Tryz.pinned (.plain (OpenSpec.ofChange fnPackagesSpec)) fnPackagesCard

/-- THE TIED CARD OF 'laws.FnPointer'. -/
def fnPointerCard : Claim7 := { stood := { row := fnPointerRow, standIns := [], harness := (true, "e1f2e88cd1dc3e13e02cbf1463f74352b321c35aa8b70d62c3e2493c622f8daa"), looks := true }, kinds := [], alts := [], laidByText := true, laidKinds := [.data, .data, .data, .data, .pinned, .pinned, .pinned], laidTests := true, laidLooks := .later }
def FnPointerCardSaid : Prop := Claim7.holds Tryz.pinned (.plain (OpenSpec.ofChange fnPointerSpec)) fnPointerCard

/-- THE SECOND FORM's CARD OF 'laws.FnAddressable'. -/
def fnAddressableUptoCard : Claim7 := { stood := { row := fnAddressableUptoRow, standIns := [], harness := (true, "e1f2e88cd1dc3e13e02cbf1463f74352b321c35aa8b70d62c3e2493c622f8daa"), looks := true }, kinds := [], alts := [], laidByText := true, laidKinds := [.data, .data, .data, .data, .pinned, .pinned, .pinned], laidTests := true, laidLooks := .later }
def FnAddressableUptoCardSaid : Prop := Claim7.holds Tryz.pinned (.plain (OpenSpec.upto fnAddressableSpec)) fnAddressableUptoCard

/-- THE SECOND FORM's CARD OF 'laws.FnBlank'. -/
def fnBlankUptoCard : Claim7 := { stood := { row := fnBlankUptoRow, standIns := [], harness := (true, "e1f2e88cd1dc3e13e02cbf1463f74352b321c35aa8b70d62c3e2493c622f8daa"), looks := true }, kinds := [], alts := [], laidByText := true, laidKinds := [.data, .data, .data, .data, .pinned, .pinned, .pinned], laidTests := true, laidLooks := .later }
def FnBlankUptoCardSaid : Prop := Claim7.holds Tryz.pinned (.plain (OpenSpec.upto fnBlankSpec)) fnBlankUptoCard

/-- THE SECOND FORM's CARD OF 'laws.FnDeclMethods'. -/
def fnDeclMethodsUptoCard : Claim7 := { stood := { row := fnDeclMethodsUptoRow, standIns := [], harness := (true, "e1f2e88cd1dc3e13e02cbf1463f74352b321c35aa8b70d62c3e2493c622f8daa"), looks := true }, kinds := [], alts := [], laidByText := true, laidKinds := [.data, .data, .data, .data, .pinned, .pinned, .pinned], laidTests := true, laidLooks := .later }
def FnDeclMethodsUptoCardSaid : Prop := Claim7.holds Tryz.pinned (.plain (OpenSpec.upto fnDeclMethodsSpec)) fnDeclMethodsUptoCard

/-- THE SECOND FORM's CARD OF 'laws.FnScript'. -/
def fnScriptUptoCard : Claim7 := { stood := { row := fnScriptUptoRow, standIns := [], harness := (true, "e1f2e88cd1dc3e13e02cbf1463f74352b321c35aa8b70d62c3e2493c622f8daa"), looks := true }, kinds := [], alts := [], laidByText := true, laidKinds := [.data, .data, .data, .data, .pinned, .pinned, .pinned], laidTests := true, laidLooks := .later }
def FnScriptUptoCardSaid : Prop := Claim7.holds Tryz.pinned (.plain (OpenSpec.upto fnScriptSpec)) fnScriptUptoCard

/-- THE SECOND FORM's CARD OF 'laws.FnSelection'. -/
def fnSelectionUptoCard : Claim7 := { stood := { row := fnSelectionUptoRow, standIns := [], harness := (true, "e1f2e88cd1dc3e13e02cbf1463f74352b321c35aa8b70d62c3e2493c622f8daa"), looks := true }, kinds := [], alts := [], laidByText := true, laidKinds := [.data, .data, .data, .data, .pinned, .pinned, .pinned], laidTests := true, laidLooks := .later }
def FnSelectionUptoCardSaid : Prop := Claim7.holds Tryz.pinned (.plain (OpenSpec.upto fnSelectionSpec)) fnSelectionUptoCard

/-- THE SECOND FORM's CARD OF 'laws.FnPackages'. -/
def fnPackagesUptoCard : Claim7 := { stood := { row := fnPackagesUptoRow, standIns := [], harness := (true, "e1f2e88cd1dc3e13e02cbf1463f74352b321c35aa8b70d62c3e2493c622f8daa"), looks := true }, kinds := [], alts := [], laidByText := true, laidKinds := [.data, .data, .data, .data, .pinned, .pinned, .pinned], laidTests := true, laidLooks := .later }
def FnPackagesUptoCardSaid : Prop := Claim7.holds Tryz.pinned (.plain (OpenSpec.upto fnPackagesSpec)) fnPackagesUptoCard

/-- THE SECOND FORM's CARD OF 'laws.FnPointer'. -/
def fnPointerUptoCard : Claim7 := { stood := { row := fnPointerUptoRow, standIns := [], harness := (true, "e1f2e88cd1dc3e13e02cbf1463f74352b321c35aa8b70d62c3e2493c622f8daa"), looks := true }, kinds := [], alts := [], laidByText := true, laidKinds := [.data, .data, .data, .data, .pinned, .pinned, .pinned], laidTests := true, laidLooks := .later }
def FnPointerUptoCardSaid : Prop := Claim7.holds Tryz.pinned (.plain (OpenSpec.upto fnPointerSpec)) fnPointerUptoCard
end Rows
end Go.Proofs.YtlkbkblemgbcdaaGreatDoor
