/-
  NARROWER THAN 'FOR EVERY INPUT', by the rows' own cells (each row's printed sentence says how): FnCombined: laid.
  DERIVED. THE GIVEN ROWS OF THIS SEAT. 1 by the template 'for every input the law returns true; each argument reads behind the call as it read before'; 0 by the template 'total and deterministic' (their statements: YtjfbojmeccdchaaDoorTotals.lean).
  GIVEN WITH THE SEED: the statements are not yours to turn. If you find one false, say at which input.
  Laid BY PROGRAM, IN A SANDBOX (cutbox-rows.mjs): the forced cells as the released guide's own fill.sh prints them over the translation 93e1bbc516418204… (all of the seat's roots in one cut). By AI agents, Wed Nov 11 2026. No macro, syntax, notation, axiom, sorry.
-/
import Derived.Test.YtjfbojmeccdchaaDoorChecked
import GoSem.Claim
import GoSem.ClaimJoined
import GoSem.ClaimMapViews
import Derived.JoinedTies
import Derived.KernelRfl
namespace Go.Proofs.YtjfbojmeccdchaaDoor
/- THE CELL 'sum', in the pinned program and in every row, IS THE sha256 OF THE DUMP (.gsa) THAT YtjfbojmeccdchaaDoorProg.lean LOADS. Nothing in Lean hashes anything: it is a label: what it is worth is what the hold of that sum in a sandbox is worth. -/
noncomputable def Tryd.pinned : Pinned := { name := "ytjfbojmeccdchaadoor", sum := "93e1bbc5164182042753309144c74f3a22ef284f5c4a9bc6bed16ed05125f938", checked := Tryd.checked }
namespace Rows
def none {H : Type} : Left H := { results := [], args := [] }

/- WHAT THE LISTED PACKAGE-LEVEL VARIABLES READ AS WHEN THE CALL BEGINS. Each datum BY PROGRAM (the guide's laid-datum.mjs) off the statement by which the dump's own 'gosem.cut.vars' lays the variable. In a bare row this is a premise. The card (YtjfbojmeccdchaaDoorCards.lean) ties it to the program's text. -/
def laid_given_example_pub_fletching_pub_arrow_arrow_bitutil_BitMask {H : Type} : DataW H := .agg [.lit (.int .u8 1), .lit (.int .u8 2), .lit (.int .u8 4), .lit (.int .u8 8), .lit (.int .u8 16), .lit (.int .u8 32), .lit (.int .u8 64), .lit (.int .u8 128)]
def laid_given_example_pub_fletching_pub_arrow_arrow_bitutil_PrecedingBitmask {H : Type} : DataW H := .agg [.lit (.int .u8 0), .lit (.int .u8 1), .lit (.int .u8 3), .lit (.int .u8 7), .lit (.int .u8 15), .lit (.int .u8 31), .lit (.int .u8 63), .lit (.int .u8 127)]
def laid_given_example_pub_fletching_pub_arrow_arrow_bitutil_TrailingBitmask {H : Type} : DataW H := .agg [.lit (.int .u8 255), .lit (.int .u8 254), .lit (.int .u8 252), .lit (.int .u8 248), .lit (.int .u8 240), .lit (.int .u8 224), .lit (.int .u8 192), .lit (.int .u8 128)]

/-- 'laws.FnCombined': WHATEVER THE INPUT: true; the input reads as it did. -/
def fnCombinedSpec : ChangeSpec := { name := "fnCombined", vars := ["given.example/pub-fletching/pub/arrow/arrow/bitutil.PrecedingBitmask", "given.example/pub-fletching/pub/arrow/arrow/bitutil.TrailingBitmask", "given.example/pub-fletching/pub/arrow/arrow/bitutil.BitMask"], fn := fun _ => fun
  | [d1, d2, d3, d4, d5, d6, d7, d8, g1, g2, g3] => { results := [.lit (.bool true)], args := [d1, d2, d3, d4, d5, d6, d7, d8], vars := [g1, g2, g3] }
  | _ => none }
def fnCombinedRow : OpenClaim := { program := "ytjfbojmeccdchaadoor", sum := "93e1bbc5164182042753309144c74f3a22ef284f5c4a9bc6bed16ed05125f938", func := "given.example/pub-fletching/laws.FnCombined", spec := "fnCombined", inPlace := ["sync/atomic.AddInt64"], unfollowed := true, recurses := true, named := ["encoding/binary.LittleEndian", "given.example/pub-fletching/pub/arrow/arrow/bitutil.PrecedingBitmask", "given.example/pub-fletching/pub/arrow/arrow/bitutil.TrailingBitmask", "given.example/pub-fletching/pub/arrow/arrow/bitutil.BitMask"], apart := false, laid := [("given.example/pub-fletching/pub/arrow/arrow/bitutil.BitMask", laid_given_example_pub_fletching_pub_arrow_arrow_bitutil_BitMask), ("given.example/pub-fletching/pub/arrow/arrow/bitutil.PrecedingBitmask", laid_given_example_pub_fletching_pub_arrow_arrow_bitutil_PrecedingBitmask), ("given.example/pub-fletching/pub/arrow/arrow/bitutil.TrailingBitmask", laid_given_example_pub_fletching_pub_arrow_arrow_bitutil_TrailingBitmask)] }
def FnCombinedSaid : Prop := fnCombinedRow.holds Tryd.pinned (OpenSpec.ofChange fnCombinedSpec)

/-- ITS FALSE NEIGHBOUR: 'it returns false'. Refute it at one input. -/
def fnCombinedWrong : ChangeSpec := { name := "fnCombined", vars := ["given.example/pub-fletching/pub/arrow/arrow/bitutil.PrecedingBitmask", "given.example/pub-fletching/pub/arrow/arrow/bitutil.TrailingBitmask", "given.example/pub-fletching/pub/arrow/arrow/bitutil.BitMask"], fn := fun _ => fun
  | [d1, d2, d3, d4, d5, d6, d7, d8, g1, g2, g3] => { results := [.lit (.bool false)], args := [d1, d2, d3, d4, d5, d6, d7, d8], vars := [g1, g2, g3] }
  | _ => none }
def FnCombinedWrongFalsely : Prop := fnCombinedRow.holds Tryd.pinned (OpenSpec.ofChange fnCombinedWrong)

/- THE SECOND FORM. 'bulk': how many values and letters a reading holds, each counted each time it is reached (what is shared counts as often as it is met; a slice's spare places count too). A statement '..UptoSaid' is the law's where the arguments, and the package variables that the reading takes, are together of bulk at most 1048576: NARROWER than '..Said'. Prove '..Said' where nothing that the law and all that it calls make is longer than what came in: it says more and counts as full. Else prove '..UptoSaid'. A law counts once. -/
mutual
def uptoBulk {H : Type} : DataW H → Nat
  | .lit (.string bytes) => bytes.length + 1
  | .lit _ => 1
  | .nil => 1
  | .ptr d => uptoBulk d + 1
  | .slice elems spare => uptoBulkAll elems + uptoBulkAll spare + 1
  | .agg parts => uptoBulkAll parts + 1
  | .iface _ d => uptoBulk d + 1
  | .map entries => uptoBulkEntries entries + 1
  | .held _ => 1
def uptoBulkAll {H : Type} : List (DataW H) → Nat
  | [] => 0
  | d :: r => uptoBulk d + uptoBulkAll r
def uptoBulkEntries {H : Type} : List (Lit × DataW H) → Nat
  | [] => 0
  | x :: r => uptoBulkEntry x + uptoBulkEntries r
def uptoBulkEntry {H : Type} : Lit × DataW H → Nat
  | (.string bytes, d) => bytes.length + uptoBulk d + 1
  | (_, d) => uptoBulk d + 1
 end
def uptoSmall : (H : Type) → List (DataW H) → Bool := fun _ ds => decide (uptoBulkAll ds ≤ 1048576)
def OpenSpec.upto (s : _root_.Go.ChangeSpec) : _root_.Go.OpenSpec := { _root_.Go.OpenSpec.ofChange s with cond := some uptoSmall }

/-- 'laws.FnCombined', WHERE WHAT IT READS IS OF BULK AT MOST 1048576: true; the input reads as it did. -/
def fnCombinedUptoRow : OpenClaim := { program := "ytjfbojmeccdchaadoor", sum := "93e1bbc5164182042753309144c74f3a22ef284f5c4a9bc6bed16ed05125f938", func := "given.example/pub-fletching/laws.FnCombined", spec := "fnCombined", inPlace := ["sync/atomic.AddInt64"], unfollowed := true, recurses := true, named := ["encoding/binary.LittleEndian", "given.example/pub-fletching/pub/arrow/arrow/bitutil.PrecedingBitmask", "given.example/pub-fletching/pub/arrow/arrow/bitutil.TrailingBitmask", "given.example/pub-fletching/pub/arrow/arrow/bitutil.BitMask"], apart := false, laid := [("given.example/pub-fletching/pub/arrow/arrow/bitutil.BitMask", laid_given_example_pub_fletching_pub_arrow_arrow_bitutil_BitMask), ("given.example/pub-fletching/pub/arrow/arrow/bitutil.PrecedingBitmask", laid_given_example_pub_fletching_pub_arrow_arrow_bitutil_PrecedingBitmask), ("given.example/pub-fletching/pub/arrow/arrow/bitutil.TrailingBitmask", laid_given_example_pub_fletching_pub_arrow_arrow_bitutil_TrailingBitmask)], narrowed := true }
def FnCombinedUptoSaid : Prop := fnCombinedUptoRow.holds Tryd.pinned (OpenSpec.upto fnCombinedSpec)

end Rows
end Go.Proofs.YtjfbojmeccdchaaDoor
