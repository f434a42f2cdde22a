/-
  DERIVED. GIVEN WITH THE SEED: THE CARDS: each row of YtconkcjcjdmidaaGreatDoorRows.lean that lists a variable, with what it lists TIED to the program's text (the seventh form; the later family's looks); each row that meets fmt, with fmt's text TOLD by the authors' own Lean function (tested against real Go, not proved from fmt's source: count such statements apart). THE CARD IS WHAT COUNTS. Prove the row's statement (the work); the ties are given (YtconkcjcjdmidaaGreatDoorTie.lean); close each card by the builder's one call (the guide's Derived/Test/ToyasCard.lean, 'card_holds'). Laid BY PROGRAM, IN A SANDBOX (cutbox-door.mjs). By AI agents, Wed Nov 11 2026. No macro, syntax, notation, axiom, sorry.
-/
import Derived.Test.YtconkcjcjdmidaaGreatDoorRows
import GoSem.ClaimSeven
namespace Go.Proofs.YtconkcjcjdmidaaGreatDoor
namespace Rows

/-- THE TIED CARD OF 'laws.FnSchemaFind'. -/
def fnSchemaFindCard : Claim7 := { stood := { row := fnSchemaFindRow, standIns := [], harness := (true, "7a5fb4fd34dbe46690af7f7292463c7fbbf2140238cd86cc4db43a114d07c5a5"), looks := false }, kinds := [], alts := [], laidByText := true, laidKinds := [.data, .pinned], laidTests := true, laidLooks := .later }
def FnSchemaFindCardSaid : Prop := Claim7.holds Tryz.pinned (.plain (OpenSpec.ofChange fnSchemaFindSpec)) fnSchemaFindCard

/-- THE SECOND FORM's CARD OF 'laws.FnSchemaFind'. -/
def fnSchemaFindUptoCard : Claim7 := { stood := { row := fnSchemaFindUptoRow, standIns := [], harness := (true, "7a5fb4fd34dbe46690af7f7292463c7fbbf2140238cd86cc4db43a114d07c5a5"), looks := false }, kinds := [], alts := [], laidByText := true, laidKinds := [.data, .pinned], laidTests := true, laidLooks := .later }
def FnSchemaFindUptoCardSaid : Prop := Claim7.holds Tryz.pinned (.plain (OpenSpec.upto fnSchemaFindSpec)) fnSchemaFindUptoCard
end Rows
end Go.Proofs.YtconkcjcjdmidaaGreatDoor
