/-
  DERIVED. GIVEN WITH THE SEED: THE CARDS: each row of YtdcaigdhbbnfoaaGreatDoorRows.lean that lists a variable, with what it lists TIED to the program's text (the seventh form; the later family's looks); each row that meets fmt, with fmt's text TOLD by the authors' own Lean function (tested against real Go, not proved from fmt's source: count such statements apart). THE CARD IS WHAT COUNTS. Prove the row's statement (the work); the ties are given (YtdcaigdhbbnfoaaGreatDoorTie.lean); close each card by the builder's one call (the guide's Derived/Test/ToyasCard.lean, 'card_holds'). Laid BY PROGRAM, IN A SANDBOX (cutbox-door.mjs). By AI agents, Wed Nov 11 2026. No macro, syntax, notation, axiom, sorry.
-/
import Derived.Test.YtdcaigdhbbnfoaaGreatDoorRows
import GoSem.ClaimSeven
namespace Go.Proofs.YtdcaigdhbbnfoaaGreatDoor
namespace Rows

/-- THE TIED CARD OF 'laws.FnVtStringText'. -/
def fnVtStringTextCard : Claim7 := { stood := { row := fnVtStringTextRow, standIns := [], harness := (true, "a5c63689cff359e101e3d444f76e8899f7074accd39ed70f20aa3a649ec4e807"), looks := true }, kinds := [], alts := [], laidByText := true, laidKinds := [.data, .data, .data, .data, .data, .sentinel, .sentinel, .sentinel, .pinned, .pinned, .pinned, .pinned, .pinned, .pinned, .pinned, .pinned], laidTests := true, laidLooks := .later }
def FnVtStringTextCardSaid : Prop := Claim7.holds Tryz.pinned (.plain (OpenSpec.ofChange fnVtStringTextSpec)) fnVtStringTextCard

/-- THE SECOND FORM's CARD OF 'laws.FnVtStringText'. -/
def fnVtStringTextUptoCard : Claim7 := { stood := { row := fnVtStringTextUptoRow, standIns := [], harness := (true, "a5c63689cff359e101e3d444f76e8899f7074accd39ed70f20aa3a649ec4e807"), looks := true }, kinds := [], alts := [], laidByText := true, laidKinds := [.data, .data, .data, .data, .data, .sentinel, .sentinel, .sentinel, .pinned, .pinned, .pinned, .pinned, .pinned, .pinned, .pinned, .pinned], laidTests := true, laidLooks := .later }
def FnVtStringTextUptoCardSaid : Prop := Claim7.holds Tryz.pinned (.plain (OpenSpec.upto fnVtStringTextSpec)) fnVtStringTextUptoCard
end Rows
end Go.Proofs.YtdcaigdhbbnfoaaGreatDoor
