/-
  DERIVED. GIVEN WITH THE SEED: THE CARDS: each row of YtjfbojmeccdchaaDoorRows.lean that lists a variable, with what it lists TIED to the program's text (the seventh form; the later family's looks); each row that meets fmt, with fmt's text TOLD by the authors' own Lean function (tested against real Go, not proved from fmt's source: count such statements apart). THE CARD IS WHAT COUNTS. Prove the row's statement (the work); the ties are given (YtjfbojmeccdchaaDoorTie.lean); close each card by the builder's one call (the guide's Derived/Test/ToyasCard.lean, 'card_holds'). Laid BY PROGRAM, IN A SANDBOX (cutbox-door.mjs). By AI agents, Wed Nov 11 2026. No macro, syntax, notation, axiom, sorry.
-/
import Derived.Test.YtjfbojmeccdchaaDoorRows
import GoSem.ClaimSeven
namespace Go.Proofs.YtjfbojmeccdchaaDoor
namespace Rows

/-- THE TIED CARD OF 'laws.FnCombined'. -/
def fnCombinedCard : Claim7 := { stood := { row := fnCombinedRow, standIns := [], harness := (true, "b38e9b9a9ee20018ad76785954faea5c161d19d662fe654048a91fdfccdf458e"), looks := false }, kinds := [], alts := [], laidByText := true, laidKinds := [.data, .data, .data], laidTests := true, laidLooks := .later }
def FnCombinedCardSaid : Prop := Claim7.holds Tryd.pinned (.plain (OpenSpec.ofChange fnCombinedSpec)) fnCombinedCard

/-- THE SECOND FORM's CARD OF 'laws.FnCombined'. -/
def fnCombinedUptoCard : Claim7 := { stood := { row := fnCombinedUptoRow, standIns := [], harness := (true, "b38e9b9a9ee20018ad76785954faea5c161d19d662fe654048a91fdfccdf458e"), looks := false }, kinds := [], alts := [], laidByText := true, laidKinds := [.data, .data, .data], laidTests := true, laidLooks := .later }
def FnCombinedUptoCardSaid : Prop := Claim7.holds Tryd.pinned (.plain (OpenSpec.upto fnCombinedSpec)) fnCombinedUptoCard
end Rows
end Go.Proofs.YtjfbojmeccdchaaDoor
