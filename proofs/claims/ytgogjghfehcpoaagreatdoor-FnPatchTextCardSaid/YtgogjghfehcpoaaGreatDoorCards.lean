/-
  DERIVED. GIVEN WITH THE SEED: THE CARDS: each row of YtgogjghfehcpoaaGreatDoorRows.lean that lists a variable, with what it lists TIED to the program's text (the seventh form; the later family's looks); each row that meets fmt, with fmt's text TOLD by the authors' own Lean function (tested against real Go, not proved from fmt's source: count such statements apart). THE CARD IS WHAT COUNTS. Prove the row's statement (the work); the ties are given (YtgogjghfehcpoaaGreatDoorTie.lean); close each card by the builder's one call (the guide's Derived/Test/ToyasCard.lean, 'card_holds'). Laid BY PROGRAM, IN A SANDBOX (cutbox-door.mjs). By AI agents, Wed Nov 11 2026. No macro, syntax, notation, axiom, sorry.
-/
import Derived.Test.YtgogjghfehcpoaaGreatDoorRows
import GoSem.ClaimSeven
namespace Go.Proofs.YtgogjghfehcpoaaGreatDoor
namespace Rows

/-- THE TIED CARD OF 'laws.FnPatchErrors'. -/
def fnPatchErrorsCard : Claim7 := { stood := { row := fnPatchErrorsRow, standIns := [], harness := (true, "ee1e998b0cfbdc22c1cbf08ec3d789573cda507e05ba253133c191073302050a"), looks := true }, kinds := [], alts := [], laidByText := true, laidKinds := [.data, .data, .data, .data, .sentinel, .sentinel, .sentinel, .pinned], laidTests := true, laidLooks := .later }
def FnPatchErrorsCardSaid : Prop := Claim7.holds Tryz.pinned (.plain (OpenSpec.ofChange fnPatchErrorsSpec)) fnPatchErrorsCard

/-- THE TIED CARD OF 'laws.FnPatchText'. -/
def fnPatchTextCard : Claim7 := { stood := { row := fnPatchTextRow, standIns := [], harness := (true, "ee1e998b0cfbdc22c1cbf08ec3d789573cda507e05ba253133c191073302050a"), looks := true }, kinds := [], alts := [], laidByText := true, laidKinds := [.data, .data, .data, .data, .sentinel, .sentinel, .sentinel, .pinned], laidTests := true, laidLooks := .later }
def FnPatchTextCardSaid : Prop := Claim7.holds Tryz.pinned (.plain (OpenSpec.ofChange fnPatchTextSpec)) fnPatchTextCard

/-- THE SECOND FORM's CARD OF 'laws.FnPatchErrors'. -/
def fnPatchErrorsUptoCard : Claim7 := { stood := { row := fnPatchErrorsUptoRow, standIns := [], harness := (true, "ee1e998b0cfbdc22c1cbf08ec3d789573cda507e05ba253133c191073302050a"), looks := true }, kinds := [], alts := [], laidByText := true, laidKinds := [.data, .data, .data, .data, .sentinel, .sentinel, .sentinel, .pinned], laidTests := true, laidLooks := .later }
def FnPatchErrorsUptoCardSaid : Prop := Claim7.holds Tryz.pinned (.plain (OpenSpec.upto fnPatchErrorsSpec)) fnPatchErrorsUptoCard

/-- THE SECOND FORM's CARD OF 'laws.FnPatchText'. -/
def fnPatchTextUptoCard : Claim7 := { stood := { row := fnPatchTextUptoRow, standIns := [], harness := (true, "ee1e998b0cfbdc22c1cbf08ec3d789573cda507e05ba253133c191073302050a"), looks := true }, kinds := [], alts := [], laidByText := true, laidKinds := [.data, .data, .data, .data, .sentinel, .sentinel, .sentinel, .pinned], laidTests := true, laidLooks := .later }
def FnPatchTextUptoCardSaid : Prop := Claim7.holds Tryz.pinned (.plain (OpenSpec.upto fnPatchTextSpec)) fnPatchTextUptoCard
end Rows
end Go.Proofs.YtgogjghfehcpoaaGreatDoor
