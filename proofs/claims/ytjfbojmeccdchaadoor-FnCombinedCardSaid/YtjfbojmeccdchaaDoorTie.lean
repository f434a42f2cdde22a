/-
  DERIVED. GIVEN WITH THE SEED: THE PROGRAM's TIES (one call each: nine closed facts by the kernel) AND EACH ROW's TIE, after the 31st guide's Derived/Test/Toyas{Tie, Card}.lean. No idea stands in it: it is a product of the set-up. Laid BY PROGRAM, IN A SANDBOX (cutbox-door.mjs). By AI agents, Wed Nov 11 2026. No macro, syntax, notation, axiom, sorry.
-/
import Derived.Test.YtjfbojmeccdchaaDoorRows
import Derived.LaidByTextLater
import Derived.SevenTiedAt
import Derived.LaidSub
import Derived.LaidOnce
namespace Go.Proofs.YtjfbojmeccdchaaDoor
open Go
set_option maxRecDepth 100000
theorem seatTie1 : Tryd.prog.laidByTextLater [("given.example/pub-fletching/pub/arrow/arrow/bitutil.BitMask", Rows.laid_given_example_pub_fletching_pub_arrow_arrow_bitutil_BitMask), ("given.example/pub-fletching/pub/arrow/arrow/bitutil.PrecedingBitmask", Rows.laid_given_example_pub_fletching_pub_arrow_arrow_bitutil_PrecedingBitmask), ("given.example/pub-fletching/pub/arrow/arrow/bitutil.TrailingBitmask", Rows.laid_given_example_pub_fletching_pub_arrow_arrow_bitutil_TrailingBitmask)] [.data, .data, .data] true :=
  Program.laidByTextLater_by_one 24 8 9 (by kernel_rfl) (by kernel_rfl) (by kernel_rfl) (by kernel_rfl) (by kernel_rfl) (by kernel_rfl) (fun _ _ => by kernel_rfl)
theorem noOwnUnsafe : Tryd.pinned.checked.prog.headLifts.contains "ownunsafe" = false := by kernel_rfl
theorem tie : Tryd.prog.laidByTextLater [("given.example/pub-fletching/pub/arrow/arrow/bitutil.BitMask", Rows.laid_given_example_pub_fletching_pub_arrow_arrow_bitutil_BitMask), ("given.example/pub-fletching/pub/arrow/arrow/bitutil.PrecedingBitmask", Rows.laid_given_example_pub_fletching_pub_arrow_arrow_bitutil_PrecedingBitmask), ("given.example/pub-fletching/pub/arrow/arrow/bitutil.TrailingBitmask", Rows.laid_given_example_pub_fletching_pub_arrow_arrow_bitutil_TrailingBitmask)] [.data, .data, .data] true :=
  Program.laidByTextLater.sub seatTie1 ["given.example/pub-fletching/pub/arrow/arrow/bitutil.BitMask", "given.example/pub-fletching/pub/arrow/arrow/bitutil.PrecedingBitmask", "given.example/pub-fletching/pub/arrow/arrow/bitutil.TrailingBitmask"] (by kernel_rfl) (by kernel_rfl)
theorem fnCombined_row_tie : Rows.fnCombinedRow.laidByTextAt .later Tryd.pinned [.data, .data, .data] true :=
  OpenClaim.laidByTextAt_later rfl rfl tie noOwnUnsafe
theorem fnCombinedUpto_row_tie : Rows.fnCombinedUptoRow.laidByTextAt .later Tryd.pinned [.data, .data, .data] true :=
  OpenClaim.laidByTextAt_later rfl rfl tie noOwnUnsafe
end Go.Proofs.YtjfbojmeccdchaaDoor
