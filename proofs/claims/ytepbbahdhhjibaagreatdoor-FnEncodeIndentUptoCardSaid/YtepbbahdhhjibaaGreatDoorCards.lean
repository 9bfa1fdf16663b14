/-
  DERIVED. GIVEN WITH THE SEED: THE CARDS: each row of YtepbbahdhhjibaaGreatDoorRows.lean that lists a variable, with what it lists TIED to the program's text (the seventh form; the later family's looks); each row that meets fmt, with fmt's text TOLD by the authors' own Lean function (tested against real Go, not proved from fmt's source: count such statements apart). THE CARD IS WHAT COUNTS. Prove the row's statement (the work); the ties are given (YtepbbahdhhjibaaGreatDoorTie.lean); close each card by the builder's one call (the guide's Derived/Test/ToyasCard.lean, 'card_holds'). Laid BY PROGRAM, IN A SANDBOX (cutbox-door.mjs). By AI agents, Wed Nov 11 2026. No macro, syntax, notation, axiom, sorry.
-/
import Derived.Test.YtepbbahdhhjibaaGreatDoorRows
import GoSem.ClaimSeven
namespace Go.Proofs.YtepbbahdhhjibaaGreatDoor
namespace Rows

/-- THE TIED CARD OF 'laws.FnEncodeIndent'. -/
def fnEncodeIndentCard : Claim7 := { stood := { row := fnEncodeIndentRow, standIns := [], harness := (true, "1d19a75bbbec1124dd68caabd8989179131b48362a0451d6e693455a7082a1c6"), looks := true }, kinds := [], alts := [], laidByText := true, laidKinds := [.data, .data, .data, .data, .handle, .sentinel, .sentinel, .sentinel, .sentinel, .data, .data, .sentinel, .pinned, .pinned], laidTests := true, laidLooks := .later }
def FnEncodeIndentCardSaid : Prop := Claim7.holds Tryz.pinned (.plain (OpenSpec.ofChange fnEncodeIndentSpec)) fnEncodeIndentCard

/-- THE TIED CARD OF 'laws.FnEncodeAgain'. -/
def fnEncodeAgainCard : Claim7 := { stood := { row := fnEncodeAgainRow, standIns := [], harness := (true, "1d19a75bbbec1124dd68caabd8989179131b48362a0451d6e693455a7082a1c6"), looks := true }, kinds := [], alts := [], laidByText := true, laidKinds := [.data, .data, .data, .data, .handle, .sentinel, .sentinel, .sentinel, .sentinel, .data, .data, .sentinel, .pinned, .pinned], laidTests := true, laidLooks := .later }
def FnEncodeAgainCardSaid : Prop := Claim7.holds Tryz.pinned (.plain (OpenSpec.ofChange fnEncodeAgainSpec)) fnEncodeAgainCard

/-- THE SECOND FORM's CARD OF 'laws.FnEncodeIndent'. -/
def fnEncodeIndentUptoCard : Claim7 := { stood := { row := fnEncodeIndentUptoRow, standIns := [], harness := (true, "1d19a75bbbec1124dd68caabd8989179131b48362a0451d6e693455a7082a1c6"), looks := true }, kinds := [], alts := [], laidByText := true, laidKinds := [.data, .data, .data, .data, .handle, .sentinel, .sentinel, .sentinel, .sentinel, .data, .data, .sentinel, .pinned, .pinned], laidTests := true, laidLooks := .later }
def FnEncodeIndentUptoCardSaid : Prop := Claim7.holds Tryz.pinned (.plain (OpenSpec.upto fnEncodeIndentSpec)) fnEncodeIndentUptoCard

/-- THE SECOND FORM's CARD OF 'laws.FnEncodeAgain'. -/
def fnEncodeAgainUptoCard : Claim7 := { stood := { row := fnEncodeAgainUptoRow, standIns := [], harness := (true, "1d19a75bbbec1124dd68caabd8989179131b48362a0451d6e693455a7082a1c6"), looks := true }, kinds := [], alts := [], laidByText := true, laidKinds := [.data, .data, .data, .data, .handle, .sentinel, .sentinel, .sentinel, .sentinel, .data, .data, .sentinel, .pinned, .pinned], laidTests := true, laidLooks := .later }
def FnEncodeAgainUptoCardSaid : Prop := Claim7.holds Tryz.pinned (.plain (OpenSpec.upto fnEncodeAgainSpec)) fnEncodeAgainUptoCard
end Rows
end Go.Proofs.YtepbbahdhhjibaaGreatDoor
