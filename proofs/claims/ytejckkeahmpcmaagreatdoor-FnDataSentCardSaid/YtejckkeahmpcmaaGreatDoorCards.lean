/-
  DERIVED. GIVEN WITH THE SEED: THE CARDS: each row of YtejckkeahmpcmaaGreatDoorRows.lean that lists a variable, with what it lists TIED to the program's text (the seventh form; the later family's looks); each row that meets fmt, with fmt's text TOLD by the authors' own Lean function (tested against real Go, not proved from fmt's source: count such statements apart). THE CARD IS WHAT COUNTS. Prove the row's statement (the work); the ties are given (YtejckkeahmpcmaaGreatDoorTie.lean); close each card by the builder's one call (the guide's Derived/Test/ToyasCard.lean, 'card_holds'). Laid BY PROGRAM, IN A SANDBOX (cutbox-door.mjs). By AI agents, Wed Nov 11 2026. No macro, syntax, notation, axiom, sorry.
-/
import Derived.Test.YtejckkeahmpcmaaGreatDoorRows
import GoSem.ClaimSeven
namespace Go.Proofs.YtejckkeahmpcmaaGreatDoor
namespace Rows

/-- THE TIED CARD OF 'laws.FnCalled'. -/
def fnCalledCard : Claim7 := { stood := { row := fnCalledRow, standIns := [], harness := (true, "9fb9f0123d6b2a4f18d3e59e75376844681a7d675c3fd79f715b3d5d6084bb39"), looks := true }, kinds := [], alts := [], laidByText := true, laidKinds := [.data, .data, .data, .data, .sentinel, .sentinel, .sentinel, .sentinel, .sentinel, .sentinel, .pinned, .pinned], laidTests := true, laidLooks := .later }
def FnCalledCardSaid : Prop := Claim7.holds Tryz.pinned (.plain (OpenSpec.ofChange fnCalledSpec)) fnCalledCard

/-- THE TIED CARD OF 'laws.FnCalledCut'. -/
def fnCalledCutCard : Claim7 := { stood := { row := fnCalledCutRow, standIns := [], harness := (true, "9fb9f0123d6b2a4f18d3e59e75376844681a7d675c3fd79f715b3d5d6084bb39"), looks := true }, kinds := [], alts := [], laidByText := true, laidKinds := [.data, .data, .data, .data, .sentinel, .sentinel, .sentinel, .sentinel, .sentinel, .sentinel, .pinned, .pinned], laidTests := true, laidLooks := .later }
def FnCalledCutCardSaid : Prop := Claim7.holds Tryz.pinned (.plain (OpenSpec.ofChange fnCalledCutSpec)) fnCalledCutCard

/-- THE TIED CARD OF 'laws.FnDataSent'. -/
def fnDataSentCard : Claim7 := { stood := { row := fnDataSentRow, standIns := [], harness := (true, "9fb9f0123d6b2a4f18d3e59e75376844681a7d675c3fd79f715b3d5d6084bb39"), looks := true }, kinds := [], alts := [], laidByText := true, laidKinds := [.data, .data, .data, .data, .sentinel, .sentinel, .sentinel, .sentinel, .sentinel, .sentinel, .pinned, .pinned], laidTests := true, laidLooks := .later }
def FnDataSentCardSaid : Prop := Claim7.holds Tryz.pinned (.plain (OpenSpec.ofChange fnDataSentSpec)) fnDataSentCard

/-- THE SECOND FORM's CARD OF 'laws.FnCalled'. -/
def fnCalledUptoCard : Claim7 := { stood := { row := fnCalledUptoRow, standIns := [], harness := (true, "9fb9f0123d6b2a4f18d3e59e75376844681a7d675c3fd79f715b3d5d6084bb39"), looks := true }, kinds := [], alts := [], laidByText := true, laidKinds := [.data, .data, .data, .data, .sentinel, .sentinel, .sentinel, .sentinel, .sentinel, .sentinel, .pinned, .pinned], laidTests := true, laidLooks := .later }
def FnCalledUptoCardSaid : Prop := Claim7.holds Tryz.pinned (.plain (OpenSpec.upto fnCalledSpec)) fnCalledUptoCard

/-- THE SECOND FORM's CARD OF 'laws.FnCalledCut'. -/
def fnCalledCutUptoCard : Claim7 := { stood := { row := fnCalledCutUptoRow, standIns := [], harness := (true, "9fb9f0123d6b2a4f18d3e59e75376844681a7d675c3fd79f715b3d5d6084bb39"), looks := true }, kinds := [], alts := [], laidByText := true, laidKinds := [.data, .data, .data, .data, .sentinel, .sentinel, .sentinel, .sentinel, .sentinel, .sentinel, .pinned, .pinned], laidTests := true, laidLooks := .later }
def FnCalledCutUptoCardSaid : Prop := Claim7.holds Tryz.pinned (.plain (OpenSpec.upto fnCalledCutSpec)) fnCalledCutUptoCard

/-- THE SECOND FORM's CARD OF 'laws.FnDataSent'. -/
def fnDataSentUptoCard : Claim7 := { stood := { row := fnDataSentUptoRow, standIns := [], harness := (true, "9fb9f0123d6b2a4f18d3e59e75376844681a7d675c3fd79f715b3d5d6084bb39"), looks := true }, kinds := [], alts := [], laidByText := true, laidKinds := [.data, .data, .data, .data, .sentinel, .sentinel, .sentinel, .sentinel, .sentinel, .sentinel, .pinned, .pinned], laidTests := true, laidLooks := .later }
def FnDataSentUptoCardSaid : Prop := Claim7.holds Tryz.pinned (.plain (OpenSpec.upto fnDataSentSpec)) fnDataSentUptoCard
end Rows
end Go.Proofs.YtejckkeahmpcmaaGreatDoor
