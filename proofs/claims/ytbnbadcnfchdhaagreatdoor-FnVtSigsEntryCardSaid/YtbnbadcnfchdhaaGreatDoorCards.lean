/-
  DERIVED. GIVEN WITH THE SEED: THE CARDS: each row of YtbnbadcnfchdhaaGreatDoorRows.lean that lists a variable, with what it lists TIED to the program's text (the seventh form; the later family's looks); each row that meets fmt, with fmt's text TOLD by the authors' own Lean function (tested against real Go, not proved from fmt's source: count such statements apart). THE CARD IS WHAT COUNTS. Prove the row's statement (the work); the ties are given (YtbnbadcnfchdhaaGreatDoorTie.lean); close each card by the builder's one call (the guide's Derived/Test/ToyasCard.lean, 'card_holds'). Laid BY PROGRAM, IN A SANDBOX (cutbox-door.mjs). By AI agents, Wed Nov 11 2026. No macro, syntax, notation, axiom, sorry.
-/
import Derived.Test.YtbnbadcnfchdhaaGreatDoorRows
import GoSem.ClaimSeven
namespace Go.Proofs.YtbnbadcnfchdhaaGreatDoor
namespace Rows

/-- THE TIED CARD OF 'laws.FnVtSigsEntry'. -/
def fnVtSigsEntryCard : Claim7 := { stood := { row := fnVtSigsEntryRow, standIns := [], harness := (true, "bf46af161ea00f8f851d369d7df13c46e462a61da0bec224f38407a790d851e3"), looks := true }, kinds := [], alts := [], laidByText := true, laidKinds := [.data, .data, .widerDeep, .widerDeep, .data, .data, .data, .data, .data, .data, .sentinel, .sentinel, .sentinel, .sentinel, .pinned, .pinned, .pinned], laidTests := true, laidLooks := .later }
def FnVtSigsEntryCardSaid : Prop := Claim7.holds Tryz.pinned (.plain (OpenSpec.ofChange fnVtSigsEntrySpec)) fnVtSigsEntryCard

/-- THE SECOND FORM's CARD OF 'laws.FnVtSigsEntry'. -/
def fnVtSigsEntryUptoCard : Claim7 := { stood := { row := fnVtSigsEntryUptoRow, standIns := [], harness := (true, "bf46af161ea00f8f851d369d7df13c46e462a61da0bec224f38407a790d851e3"), looks := true }, kinds := [], alts := [], laidByText := true, laidKinds := [.data, .data, .widerDeep, .widerDeep, .data, .data, .data, .data, .data, .data, .sentinel, .sentinel, .sentinel, .sentinel, .pinned, .pinned, .pinned], laidTests := true, laidLooks := .later }
def FnVtSigsEntryUptoCardSaid : Prop := Claim7.holds Tryz.pinned (.plain (OpenSpec.upto fnVtSigsEntrySpec)) fnVtSigsEntryUptoCard
end Rows
end Go.Proofs.YtbnbadcnfchdhaaGreatDoor
