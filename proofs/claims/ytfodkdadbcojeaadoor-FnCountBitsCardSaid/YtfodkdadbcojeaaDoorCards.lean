/-
  DERIVED. GIVEN WITH THE SEED: THE CARDS: each row of YtfodkdadbcojeaaDoorRows.lean that lists a variable, with what it lists TIED to the program's text (the seventh form; the later family's looks); each row that meets fmt, with fmt's text TOLD by the authors' own Lean function (tested against real Go, not proved from fmt's source: count such statements apart). THE CARD IS WHAT COUNTS. Prove the row's statement (the work); the ties are given (YtfodkdadbcojeaaDoorTie.lean); close each card by the builder's one call (the guide's Derived/Test/ToyasCard.lean, 'card_holds'). Laid BY PROGRAM, IN A SANDBOX (cutbox-door.mjs). By AI agents, Wed Nov 11 2026. No macro, syntax, notation, axiom, sorry.
-/
import Derived.Test.YtfodkdadbcojeaaDoorRows
import GoSem.ClaimSeven
namespace Go.Proofs.YtfodkdadbcojeaaDoor
namespace Rows

/-- THE TIED CARD OF 'laws.FnGenerated'. -/
def fnGeneratedCard : Claim7 := { stood := { row := fnGeneratedRow, standIns := [], harness := (true, "c0ecebb477edcdbdf3219625a60b7f4ce5b553139fe4e5691cc8c761707e13aa"), looks := false }, kinds := [], alts := [], laidByText := true, laidKinds := [.data, .data], laidTests := true, laidLooks := .later }
def FnGeneratedCardSaid : Prop := Claim7.holds Tryd.pinned (.plain (OpenSpec.ofChange fnGeneratedSpec)) fnGeneratedCard

/-- THE TIED CARD OF 'laws.FnCountBits'. -/
def fnCountBitsCard : Claim7 := { stood := { row := fnCountBitsRow, standIns := [], harness := (true, "c0ecebb477edcdbdf3219625a60b7f4ce5b553139fe4e5691cc8c761707e13aa"), looks := false }, kinds := [], alts := [], laidByText := true, laidKinds := [.data], laidTests := true, laidLooks := .later }
def FnCountBitsCardSaid : Prop := Claim7.holds Tryd.pinned (.plain (OpenSpec.ofChange fnCountBitsSpec)) fnCountBitsCard

/-- THE TIED CARD OF 'laws.FnRunsOf'. -/
def fnRunsOfCard : Claim7 := { stood := { row := fnRunsOfRow, standIns := [], harness := (true, "c0ecebb477edcdbdf3219625a60b7f4ce5b553139fe4e5691cc8c761707e13aa"), looks := false }, kinds := [], alts := [], laidByText := true, laidKinds := [.data, .data], laidTests := true, laidLooks := .later }
def FnRunsOfCardSaid : Prop := Claim7.holds Tryd.pinned (.plain (OpenSpec.ofChange fnRunsOfSpec)) fnRunsOfCard

/-- THE TIED CARD OF 'laws.FnWriteBits'. -/
def fnWriteBitsCard : Claim7 := { stood := { row := fnWriteBitsRow, standIns := [], harness := (true, "c0ecebb477edcdbdf3219625a60b7f4ce5b553139fe4e5691cc8c761707e13aa"), looks := false }, kinds := [], alts := [], laidByText := true, laidKinds := [.data, .data, .data], laidTests := true, laidLooks := .later }
def FnWriteBitsCardSaid : Prop := Claim7.holds Tryd.pinned (.plain (OpenSpec.ofChange fnWriteBitsSpec)) fnWriteBitsCard

/-- THE TIED CARD OF 'laws.FnCombined'. -/
def fnCombinedCard : Claim7 := { stood := { row := fnCombinedRow, standIns := [], harness := (true, "c0ecebb477edcdbdf3219625a60b7f4ce5b553139fe4e5691cc8c761707e13aa"), looks := false }, kinds := [], alts := [], laidByText := true, laidKinds := [.data, .data, .data], laidTests := true, laidLooks := .later }
def FnCombinedCardSaid : Prop := Claim7.holds Tryd.pinned (.plain (OpenSpec.ofChange fnCombinedSpec)) fnCombinedCard

/-- THE SECOND FORM's CARD OF 'laws.FnGenerated'. -/
def fnGeneratedUptoCard : Claim7 := { stood := { row := fnGeneratedUptoRow, standIns := [], harness := (true, "c0ecebb477edcdbdf3219625a60b7f4ce5b553139fe4e5691cc8c761707e13aa"), looks := false }, kinds := [], alts := [], laidByText := true, laidKinds := [.data, .data], laidTests := true, laidLooks := .later }
def FnGeneratedUptoCardSaid : Prop := Claim7.holds Tryd.pinned (.plain (OpenSpec.upto fnGeneratedSpec)) fnGeneratedUptoCard

/-- THE SECOND FORM's CARD OF 'laws.FnCountBits'. -/
def fnCountBitsUptoCard : Claim7 := { stood := { row := fnCountBitsUptoRow, standIns := [], harness := (true, "c0ecebb477edcdbdf3219625a60b7f4ce5b553139fe4e5691cc8c761707e13aa"), looks := false }, kinds := [], alts := [], laidByText := true, laidKinds := [.data], laidTests := true, laidLooks := .later }
def FnCountBitsUptoCardSaid : Prop := Claim7.holds Tryd.pinned (.plain (OpenSpec.upto fnCountBitsSpec)) fnCountBitsUptoCard

/-- THE SECOND FORM's CARD OF 'laws.FnRunsOf'. -/
def fnRunsOfUptoCard : Claim7 := { stood := { row := fnRunsOfUptoRow, standIns := [], harness := (true, "c0ecebb477edcdbdf3219625a60b7f4ce5b553139fe4e5691cc8c761707e13aa"), looks := false }, kinds := [], alts := [], laidByText := true, laidKinds := [.data, .data], laidTests := true, laidLooks := .later }
def FnRunsOfUptoCardSaid : Prop := Claim7.holds Tryd.pinned (.plain (OpenSpec.upto fnRunsOfSpec)) fnRunsOfUptoCard

/-- THE SECOND FORM's CARD OF 'laws.FnWriteBits'. -/
def fnWriteBitsUptoCard : Claim7 := { stood := { row := fnWriteBitsUptoRow, standIns := [], harness := (true, "c0ecebb477edcdbdf3219625a60b7f4ce5b553139fe4e5691cc8c761707e13aa"), looks := false }, kinds := [], alts := [], laidByText := true, laidKinds := [.data, .data, .data], laidTests := true, laidLooks := .later }
def FnWriteBitsUptoCardSaid : Prop := Claim7.holds Tryd.pinned (.plain (OpenSpec.upto fnWriteBitsSpec)) fnWriteBitsUptoCard

/-- THE SECOND FORM's CARD OF 'laws.FnCombined'. -/
def fnCombinedUptoCard : Claim7 := { stood := { row := fnCombinedUptoRow, standIns := [], harness := (true, "c0ecebb477edcdbdf3219625a60b7f4ce5b553139fe4e5691cc8c761707e13aa"), looks := false }, kinds := [], alts := [], laidByText := true, laidKinds := [.data, .data, .data], laidTests := true, laidLooks := .later }
def FnCombinedUptoCardSaid : Prop := Claim7.holds Tryd.pinned (.plain (OpenSpec.upto fnCombinedSpec)) fnCombinedUptoCard
end Rows
end Go.Proofs.YtfodkdadbcojeaaDoor
