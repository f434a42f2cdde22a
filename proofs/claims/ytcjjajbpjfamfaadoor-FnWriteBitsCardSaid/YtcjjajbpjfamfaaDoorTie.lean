/-
  DERIVED. GIVEN WITH THE SEED: THE PROGRAM's TIES (one call each: nine closed facts by the kernel) AND EACH ROW's TIE, after the 31st guide's Derived/Test/Toyas{Tie, Card}.lean. No idea stands in it: it is a product of the set-up. Laid BY PROGRAM, IN A SANDBOX (cutbox-door.mjs). By AI agents, Wed Nov 11 2026. No macro, syntax, notation, axiom, sorry.
-/
import Derived.Test.YtcjjajbpjfamfaaDoorRows
import Derived.LaidByTextLater
import Derived.SevenTiedAt
import Derived.LaidSub
import Derived.LaidOnce
namespace Go.Proofs.YtcjjajbpjfamfaaDoor
open Go
set_option maxRecDepth 100000
theorem seatTie1 : Tryd.prog.laidByTextLater [("math/bits.deBruijn32tab", Rows.laid_math_bits_deBruijn32tab), ("given.example/pub-fletching/pub/arrow/arrow/bitutil.BitMask", Rows.laid_given_example_pub_fletching_pub_arrow_arrow_bitutil_BitMask), ("given.example/pub-fletching/pub/arrow/arrow/bitutil.FlippedBitMask", Rows.laid_given_example_pub_fletching_pub_arrow_arrow_bitutil_FlippedBitMask)] [.data, .data, .data] true :=
  Program.laidByTextLater_by_one 24 8 33 (by kernel_rfl) (by kernel_rfl) (by kernel_rfl) (by kernel_rfl) (by kernel_rfl) (by kernel_rfl) (fun _ _ => by kernel_rfl)
theorem noOwnUnsafe : Tryd.pinned.checked.prog.headLifts.contains "ownunsafe" = false := by kernel_rfl
theorem tie : Tryd.prog.laidByTextLater [("math/bits.deBruijn32tab", Rows.laid_math_bits_deBruijn32tab), ("given.example/pub-fletching/pub/arrow/arrow/bitutil.BitMask", Rows.laid_given_example_pub_fletching_pub_arrow_arrow_bitutil_BitMask), ("given.example/pub-fletching/pub/arrow/arrow/bitutil.FlippedBitMask", Rows.laid_given_example_pub_fletching_pub_arrow_arrow_bitutil_FlippedBitMask)] [.data, .data, .data] true :=
  Program.laidByTextLater.sub seatTie1 ["math/bits.deBruijn32tab", "given.example/pub-fletching/pub/arrow/arrow/bitutil.BitMask", "given.example/pub-fletching/pub/arrow/arrow/bitutil.FlippedBitMask"] (by kernel_rfl) (by kernel_rfl)
theorem fnWriteBits_row_tie : Rows.fnWriteBitsRow.laidByTextAt .later Tryd.pinned [.data, .data, .data] true :=
  OpenClaim.laidByTextAt_later rfl rfl tie noOwnUnsafe
theorem fnWriteBitsUpto_row_tie : Rows.fnWriteBitsUptoRow.laidByTextAt .later Tryd.pinned [.data, .data, .data] true :=
  OpenClaim.laidByTextAt_later rfl rfl tie noOwnUnsafe
end Go.Proofs.YtcjjajbpjfamfaaDoor
