/-
  DERIVED. GIVEN WITH THE SEED: THE CARDS: each row of YtmfhclggkjjcdaaGreatDoorRows.lean that lists a variable, with what it lists TIED to the program's text (the seventh form; the later family's looks); each row that meets fmt, with fmt's text TOLD by the authors' own Lean function (tested against real Go, not proved from fmt's source: count such statements apart). THE CARD IS WHAT COUNTS. Prove the row's statement (the work); the ties are given (YtmfhclggkjjcdaaGreatDoorTie.lean); close each card by the builder's one call (the guide's Derived/Test/ToyasCard.lean, 'card_holds'). Laid BY PROGRAM, IN A SANDBOX (cutbox-door.mjs). By AI agents, Wed Nov 11 2026. No macro, syntax, notation, axiom, sorry.
-/
import Derived.Test.YtmfhclggkjjcdaaGreatDoorRows
import GoSem.ClaimSeven
namespace Go.Proofs.YtmfhclggkjjcdaaGreatDoor
namespace Rows

/-- THE TIED CARD OF 'laws.FnWrapPointer'. -/
def fnWrapPointerCard : Claim7 := { stood := { row := fnWrapPointerRow, standIns := [], harness := (true, "195a117264486dc1a47d7709e733f8582c2083aff2fba0f8414ece24431bb15c"), looks := true }, kinds := [], alts := [], laidByText := true, laidKinds := [.data, .data, .data, .data, .pinned, .pinned, .pinned], laidTests := true, laidLooks := .later }
def FnWrapPointerCardSaid : Prop := Claim7.holds Tryz.pinned (.plain (OpenSpec.ofChange fnWrapPointerSpec)) fnWrapPointerCard

/-- THE TIED CARD OF 'laws.FnDefined'. -/
def fnDefinedCard : Claim7 := { stood := { row := fnDefinedRow, standIns := [], harness := (true, "195a117264486dc1a47d7709e733f8582c2083aff2fba0f8414ece24431bb15c"), looks := true }, kinds := [], alts := [], laidByText := true, laidKinds := [.data, .data, .data, .data, .pinned, .pinned, .pinned], laidTests := true, laidLooks := .later }
def FnDefinedCardSaid : Prop := Claim7.holds Tryz.pinned (.plain (OpenSpec.ofChange fnDefinedSpec)) fnDefinedCard

/-- THE TIED CARD OF 'laws.FnBeside'. -/
def fnBesideCard : Claim7 := { stood := { row := fnBesideRow, standIns := [], harness := (true, "195a117264486dc1a47d7709e733f8582c2083aff2fba0f8414ece24431bb15c"), looks := true }, kinds := [], alts := [], laidByText := true, laidKinds := [.data, .data, .data, .data, .pinned, .pinned, .pinned], laidTests := true, laidLooks := .later }
def FnBesideCardSaid : Prop := Claim7.holds Tryz.pinned (.plain (OpenSpec.ofChange fnBesideSpec)) fnBesideCard

/-- THE SECOND FORM's CARD OF 'laws.FnWrapPointer'. -/
def fnWrapPointerUptoCard : Claim7 := { stood := { row := fnWrapPointerUptoRow, standIns := [], harness := (true, "195a117264486dc1a47d7709e733f8582c2083aff2fba0f8414ece24431bb15c"), looks := true }, kinds := [], alts := [], laidByText := true, laidKinds := [.data, .data, .data, .data, .pinned, .pinned, .pinned], laidTests := true, laidLooks := .later }
def FnWrapPointerUptoCardSaid : Prop := Claim7.holds Tryz.pinned (.plain (OpenSpec.upto fnWrapPointerSpec)) fnWrapPointerUptoCard

/-- THE SECOND FORM's CARD OF 'laws.FnDefined'. -/
def fnDefinedUptoCard : Claim7 := { stood := { row := fnDefinedUptoRow, standIns := [], harness := (true, "195a117264486dc1a47d7709e733f8582c2083aff2fba0f8414ece24431bb15c"), looks := true }, kinds := [], alts := [], laidByText := true, laidKinds := [.data, .data, .data, .data, .pinned, .pinned, .pinned], laidTests := true, laidLooks := .later }
def FnDefinedUptoCardSaid : Prop := Claim7.holds Tryz.pinned (.plain (OpenSpec.upto fnDefinedSpec)) fnDefinedUptoCard

/-- THE SECOND FORM's CARD OF 'laws.FnBeside'. -/
def fnBesideUptoCard : Claim7 := { stood := { row := fnBesideUptoRow, standIns := [], harness := (true, "195a117264486dc1a47d7709e733f8582c2083aff2fba0f8414ece24431bb15c"), looks := true }, kinds := [], alts := [], laidByText := true, laidKinds := [.data, .data, .data, .data, .pinned, .pinned, .pinned], laidTests := true, laidLooks := .later }
def FnBesideUptoCardSaid : Prop := Claim7.holds Tryz.pinned (.plain (OpenSpec.upto fnBesideSpec)) fnBesideUptoCard
end Rows
end Go.Proofs.YtmfhclggkjjcdaaGreatDoor
