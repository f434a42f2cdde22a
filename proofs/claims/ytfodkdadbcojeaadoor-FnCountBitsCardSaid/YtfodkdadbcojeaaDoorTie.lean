/-
  DERIVED. GIVEN WITH THE SEED: THE PROGRAM's TIES (one call each: nine closed facts by the kernel) AND EACH ROW's TIE, after the 31st guide's Derived/Test/Toyas{Tie, Card}.lean. No idea stands in it: it is a product of the set-up. Laid BY PROGRAM, IN A SANDBOX (cutbox-door.mjs). By AI agents, Wed Nov 11 2026. No macro, syntax, notation, axiom, sorry.
-/
import Derived.Test.YtfodkdadbcojeaaDoorRows
import Derived.LaidByTextLater
import Derived.SevenTiedAt
import Derived.LaidSub
import Derived.LaidOnce
namespace Go.Proofs.YtfodkdadbcojeaaDoor
open Go
set_option maxRecDepth 100000
theorem seatTie1 : Tryd.prog.laidByTextLater [("math/bits.deBruijn32tab", Rows.laid_math_bits_deBruijn32tab), ("given.example/pub-fletching/pub/arrow/arrow/bitutil.BitMask", Rows.laid_given_example_pub_fletching_pub_arrow_arrow_bitutil_BitMask), ("given.example/pub-fletching/pub/arrow/arrow/bitutil.FlippedBitMask", Rows.laid_given_example_pub_fletching_pub_arrow_arrow_bitutil_FlippedBitMask), ("given.example/pub-fletching/pub/arrow/arrow/bitutil.PrecedingBitmask", Rows.laid_given_example_pub_fletching_pub_arrow_arrow_bitutil_PrecedingBitmask), ("given.example/pub-fletching/pub/arrow/arrow/bitutil.TrailingBitmask", Rows.laid_given_example_pub_fletching_pub_arrow_arrow_bitutil_TrailingBitmask)] [.data, .data, .data, .data, .data] true :=
  Program.laidByTextLater_by_one 39 8 65 (by kernel_rfl) (by kernel_rfl) (by kernel_rfl) (by kernel_rfl) (by kernel_rfl) (by kernel_rfl) (fun _ _ => by kernel_rfl)
theorem noOwnUnsafe : Tryd.pinned.checked.prog.headLifts.contains "ownunsafe" = false := by kernel_rfl
theorem tie : Tryd.prog.laidByTextLater [("given.example/pub-fletching/pub/arrow/arrow/bitutil.BitMask", Rows.laid_given_example_pub_fletching_pub_arrow_arrow_bitutil_BitMask), ("given.example/pub-fletching/pub/arrow/arrow/bitutil.PrecedingBitmask", Rows.laid_given_example_pub_fletching_pub_arrow_arrow_bitutil_PrecedingBitmask)] [.data, .data] true :=
  Program.laidByTextLater.sub seatTie1 ["given.example/pub-fletching/pub/arrow/arrow/bitutil.BitMask", "given.example/pub-fletching/pub/arrow/arrow/bitutil.PrecedingBitmask"] (by kernel_rfl) (by kernel_rfl)
theorem fnGenerated_row_tie : Rows.fnGeneratedRow.laidByTextAt .later Tryd.pinned [.data, .data] true :=
  OpenClaim.laidByTextAt_later rfl rfl tie noOwnUnsafe
theorem tie2 : Tryd.prog.laidByTextLater [("given.example/pub-fletching/pub/arrow/arrow/bitutil.BitMask", Rows.laid_given_example_pub_fletching_pub_arrow_arrow_bitutil_BitMask)] [.data] true :=
  Program.laidByTextLater.sub seatTie1 ["given.example/pub-fletching/pub/arrow/arrow/bitutil.BitMask"] (by kernel_rfl) (by kernel_rfl)
theorem fnCountBits_row_tie : Rows.fnCountBitsRow.laidByTextAt .later Tryd.pinned [.data] true :=
  OpenClaim.laidByTextAt_later rfl rfl tie2 noOwnUnsafe
theorem tie3 : Tryd.prog.laidByTextLater [("given.example/pub-fletching/pub/arrow/arrow/bitutil.BitMask", Rows.laid_given_example_pub_fletching_pub_arrow_arrow_bitutil_BitMask), ("given.example/pub-fletching/pub/arrow/arrow/bitutil.FlippedBitMask", Rows.laid_given_example_pub_fletching_pub_arrow_arrow_bitutil_FlippedBitMask)] [.data, .data] true :=
  Program.laidByTextLater.sub seatTie1 ["given.example/pub-fletching/pub/arrow/arrow/bitutil.BitMask", "given.example/pub-fletching/pub/arrow/arrow/bitutil.FlippedBitMask"] (by kernel_rfl) (by kernel_rfl)
theorem fnRunsOf_row_tie : Rows.fnRunsOfRow.laidByTextAt .later Tryd.pinned [.data, .data] true :=
  OpenClaim.laidByTextAt_later rfl rfl tie3 noOwnUnsafe
theorem tie4 : Tryd.prog.laidByTextLater [("math/bits.deBruijn32tab", Rows.laid_math_bits_deBruijn32tab), ("given.example/pub-fletching/pub/arrow/arrow/bitutil.BitMask", Rows.laid_given_example_pub_fletching_pub_arrow_arrow_bitutil_BitMask), ("given.example/pub-fletching/pub/arrow/arrow/bitutil.FlippedBitMask", Rows.laid_given_example_pub_fletching_pub_arrow_arrow_bitutil_FlippedBitMask)] [.data, .data, .data] true :=
  Program.laidByTextLater.sub seatTie1 ["math/bits.deBruijn32tab", "given.example/pub-fletching/pub/arrow/arrow/bitutil.BitMask", "given.example/pub-fletching/pub/arrow/arrow/bitutil.FlippedBitMask"] (by kernel_rfl) (by kernel_rfl)
theorem fnWriteBits_row_tie : Rows.fnWriteBitsRow.laidByTextAt .later Tryd.pinned [.data, .data, .data] true :=
  OpenClaim.laidByTextAt_later rfl rfl tie4 noOwnUnsafe
theorem tie5 : Tryd.prog.laidByTextLater [("given.example/pub-fletching/pub/arrow/arrow/bitutil.BitMask", Rows.laid_given_example_pub_fletching_pub_arrow_arrow_bitutil_BitMask), ("given.example/pub-fletching/pub/arrow/arrow/bitutil.PrecedingBitmask", Rows.laid_given_example_pub_fletching_pub_arrow_arrow_bitutil_PrecedingBitmask), ("given.example/pub-fletching/pub/arrow/arrow/bitutil.TrailingBitmask", Rows.laid_given_example_pub_fletching_pub_arrow_arrow_bitutil_TrailingBitmask)] [.data, .data, .data] true :=
  Program.laidByTextLater.sub seatTie1 ["given.example/pub-fletching/pub/arrow/arrow/bitutil.BitMask", "given.example/pub-fletching/pub/arrow/arrow/bitutil.PrecedingBitmask", "given.example/pub-fletching/pub/arrow/arrow/bitutil.TrailingBitmask"] (by kernel_rfl) (by kernel_rfl)
theorem fnCombined_row_tie : Rows.fnCombinedRow.laidByTextAt .later Tryd.pinned [.data, .data, .data] true :=
  OpenClaim.laidByTextAt_later rfl rfl tie5 noOwnUnsafe
theorem fnGeneratedUpto_row_tie : Rows.fnGeneratedUptoRow.laidByTextAt .later Tryd.pinned [.data, .data] true :=
  OpenClaim.laidByTextAt_later rfl rfl tie noOwnUnsafe
theorem fnCountBitsUpto_row_tie : Rows.fnCountBitsUptoRow.laidByTextAt .later Tryd.pinned [.data] true :=
  OpenClaim.laidByTextAt_later rfl rfl tie2 noOwnUnsafe
theorem fnRunsOfUpto_row_tie : Rows.fnRunsOfUptoRow.laidByTextAt .later Tryd.pinned [.data, .data] true :=
  OpenClaim.laidByTextAt_later rfl rfl tie3 noOwnUnsafe
theorem fnWriteBitsUpto_row_tie : Rows.fnWriteBitsUptoRow.laidByTextAt .later Tryd.pinned [.data, .data, .data] true :=
  OpenClaim.laidByTextAt_later rfl rfl tie4 noOwnUnsafe
theorem fnCombinedUpto_row_tie : Rows.fnCombinedUptoRow.laidByTextAt .later Tryd.pinned [.data, .data, .data] true :=
  OpenClaim.laidByTextAt_later rfl rfl tie5 noOwnUnsafe
end Go.Proofs.YtfodkdadbcojeaaDoor
