/-
  DERIVED. GIVEN WITH THE SEED: THE CARDS: each row of YtfalicipocbcoaaGreatDoorRows.lean that lists a variable, with what it lists TIED to the program's text (the seventh form; the later family's looks); each row that meets fmt, with fmt's text TOLD by the authors' own Lean function (tested against real Go, not proved from fmt's source: count such statements apart). THE CARD IS WHAT COUNTS. Prove the row's statement (the work); the ties are given (YtfalicipocbcoaaGreatDoorTie.lean); close each card by the builder's one call (the guide's Derived/Test/ToyasCard.lean, 'card_holds'). Laid BY PROGRAM, IN A SANDBOX (cutbox-door.mjs). By AI agents, Wed Nov 11 2026. No macro, syntax, notation, axiom, sorry.
-/
import Derived.Test.YtfalicipocbcoaaGreatDoorRows
import GoSem.ClaimSeven
namespace Go.Proofs.YtfalicipocbcoaaGreatDoor
namespace Rows

/-- THE TIED CARD OF 'laws.FnDecMulWide'. -/
def fnDecMulWideCard : Claim7 := { stood := { row := fnDecMulWideRow, standIns := [], harness := (true, "f0f986f48d19a7cad092c74947648341080707770a896f80b6b2a886dfd416f6"), looks := false }, kinds := [], alts := [], laidByText := true, laidKinds := [.data, .data, .data], laidTests := true, laidLooks := .later }
def FnDecMulWideCardSaid : Prop := Claim7.holds Tryz.pinned (.plain (OpenSpec.ofChange fnDecMulWideSpec)) fnDecMulWideCard

/-- THE SECOND FORM's CARD OF 'laws.FnDecMulWide'. -/
def fnDecMulWideUptoCard : Claim7 := { stood := { row := fnDecMulWideUptoRow, standIns := [], harness := (true, "f0f986f48d19a7cad092c74947648341080707770a896f80b6b2a886dfd416f6"), looks := false }, kinds := [], alts := [], laidByText := true, laidKinds := [.data, .data, .data], laidTests := true, laidLooks := .later }
def FnDecMulWideUptoCardSaid : Prop := Claim7.holds Tryz.pinned (.plain (OpenSpec.upto fnDecMulWideSpec)) fnDecMulWideUptoCard
end Rows
end Go.Proofs.YtfalicipocbcoaaGreatDoor
