/-
  DERIVED. GIVEN WITH THE SEED: THE CARDS: each row of YtnmjmipmamcgjaaDoorRows.lean that lists a variable, with what it lists TIED to the program's text (the seventh form; the later family's looks); each row that meets fmt, with fmt's text TOLD by the authors' own Lean function (tested against real Go, not proved from fmt's source: count such statements apart). THE CARD IS WHAT COUNTS. Prove the row's statement (the work); the ties are given (YtnmjmipmamcgjaaDoorTie.lean); close each card by the builder's one call (the guide's Derived/Test/ToyasCard.lean, 'card_holds'). Laid BY PROGRAM, IN A SANDBOX (cutbox-door.mjs). By AI agents, Wed Nov 11 2026. No macro, syntax, notation, axiom, sorry.
-/
import Derived.Test.YtnmjmipmamcgjaaDoorRows
import GoSem.ClaimSeven
namespace Go.Proofs.YtnmjmipmamcgjaaDoor
namespace Rows

/-- THE TIED CARD OF 'laws.FnId'. -/
def fnIdCard : Claim7 := { stood := { row := fnIdRow, standIns := [], harness := (true, "46b6c6ffc7feb1fc51f5ffcf4156363591681835058bc9078540316fe1d3fd9c"), looks := false }, kinds := [], alts := [], laidByText := true, laidKinds := [.data, .data, .pinned, .pinned], laidTests := true, laidLooks := .later }
def FnIdCardSaid : Prop := Claim7.holds Tryd.pinned (.plain (OpenSpec.ofChange fnIdSpec)) fnIdCard

/-- THE SECOND FORM's CARD OF 'laws.FnId'. -/
def fnIdUptoCard : Claim7 := { stood := { row := fnIdUptoRow, standIns := [], harness := (true, "46b6c6ffc7feb1fc51f5ffcf4156363591681835058bc9078540316fe1d3fd9c"), looks := false }, kinds := [], alts := [], laidByText := true, laidKinds := [.data, .data, .pinned, .pinned], laidTests := true, laidLooks := .later }
def FnIdUptoCardSaid : Prop := Claim7.holds Tryd.pinned (.plain (OpenSpec.upto fnIdSpec)) fnIdUptoCard
end Rows
end Go.Proofs.YtnmjmipmamcgjaaDoor
