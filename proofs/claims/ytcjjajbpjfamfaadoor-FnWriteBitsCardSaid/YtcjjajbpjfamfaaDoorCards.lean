/-
  DERIVED. GIVEN WITH THE SEED: THE CARDS: each row of YtcjjajbpjfamfaaDoorRows.lean that lists a variable, with what it lists TIED to the program's text (the seventh form; the later family's looks); each row that meets fmt, with fmt's text TOLD by the authors' own Lean function (tested against real Go, not proved from fmt's source: count such statements apart). THE CARD IS WHAT COUNTS. Prove the row's statement (the work); the ties are given (YtcjjajbpjfamfaaDoorTie.lean); close each card by the builder's one call (the guide's Derived/Test/ToyasCard.lean, 'card_holds'). Laid BY PROGRAM, IN A SANDBOX (cutbox-door.mjs). By AI agents, Wed Nov 11 2026. No macro, syntax, notation, axiom, sorry.
-/
import Derived.Test.YtcjjajbpjfamfaaDoorRows
import GoSem.ClaimSeven
namespace Go.Proofs.YtcjjajbpjfamfaaDoor
namespace Rows

/-- THE TIED CARD OF 'laws.FnWriteBits'. -/
def fnWriteBitsCard : Claim7 := { stood := { row := fnWriteBitsRow, standIns := [], harness := (true, "0adf7b6059ecca1560fff091c7cd170450a612d22e433df417e69b8089583f35"), looks := false }, kinds := [], alts := [], laidByText := true, laidKinds := [.data, .data, .data], laidTests := true, laidLooks := .later }
def FnWriteBitsCardSaid : Prop := Claim7.holds Tryd.pinned (.plain (OpenSpec.ofChange fnWriteBitsSpec)) fnWriteBitsCard

/-- THE SECOND FORM's CARD OF 'laws.FnWriteBits'. -/
def fnWriteBitsUptoCard : Claim7 := { stood := { row := fnWriteBitsUptoRow, standIns := [], harness := (true, "0adf7b6059ecca1560fff091c7cd170450a612d22e433df417e69b8089583f35"), looks := false }, kinds := [], alts := [], laidByText := true, laidKinds := [.data, .data, .data], laidTests := true, laidLooks := .later }
def FnWriteBitsUptoCardSaid : Prop := Claim7.holds Tryd.pinned (.plain (OpenSpec.upto fnWriteBitsSpec)) fnWriteBitsUptoCard
end Rows
end Go.Proofs.YtcjjajbpjfamfaaDoor
