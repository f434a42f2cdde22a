/-
  No cell of these rows narrows 'for every input' (looked for: loops, veiled, ifaces, maps, wideKeys, modest, calm, conditions, laid).
  DERIVED. THE GIVEN ROWS OF THIS SEAT. 3 by the template 'for every input the law returns true; each argument reads behind the call as it read before'; 0 by the template 'total and deterministic' (their statements: YtajjnlneacoooaaTotals.lean).
  GIVEN WITH THE SEED: the statements are not yours to turn. If you find one false, say at which input.
  Laid BY PROGRAM, IN A SANDBOX (cutbox-rows.mjs): the forced cells as the released guide's own fill.sh prints them over the translation 569273694642078c… (all of the seat's roots in one cut). By AI agents, Wed Nov 11 2026. No macro, syntax, notation, axiom, sorry.
-/
import Derived.Test.YtajjnlneacoooaaChecked
import GoSem.Claim
import GoSem.ClaimJoined
import GoSem.ClaimMapViews
import Derived.JoinedTies
import Derived.KernelRfl
namespace Go.Proofs.Ytajjnlneacoooaa
/- THE CELL 'sum', in the pinned program and in every row, IS THE sha256 OF THE DUMP (.gsa) THAT YtajjnlneacoooaaProg.lean LOADS. Nothing in Lean hashes anything: it is a label: what it is worth is what the hold of that sum in a sandbox is worth. -/
noncomputable def Try.pinned : Pinned := { name := "ytajjnlneacoooaa", sum := "569273694642078c553c8449e388d5cbbcda507baf6690dd742ba3f28406d8e2", checked := Try.checked }
namespace Rows
def none {H : Type} : Left H := { results := [], args := [] }

/-- 'laws.FnDecUnary': WHATEVER THE INPUT: true; the input reads as it did. -/
def fnDecUnarySpec : ChangeSpec := { name := "fnDecUnary", fn := fun _ => fun
  | [d1, d2, d3] => { results := [.lit (.bool true)], args := [d1, d2, d3] }
  | _ => none }
def fnDecUnaryRow : OpenClaim := { program := "ytajjnlneacoooaa", sum := "569273694642078c553c8449e388d5cbbcda507baf6690dd742ba3f28406d8e2", func := "given.example/pub-fletching/laws.FnDecUnary", spec := "fnDecUnary", apart := false }
def FnDecUnarySaid : Prop := fnDecUnaryRow.holds Try.pinned (OpenSpec.ofChange fnDecUnarySpec)

/-- ITS FALSE NEIGHBOUR: 'it returns false'. Refute it at one input. -/
def fnDecUnaryWrong : ChangeSpec := { name := "fnDecUnary", fn := fun _ => fun
  | [d1, d2, d3] => { results := [.lit (.bool false)], args := [d1, d2, d3] }
  | _ => none }
def FnDecUnaryWrongFalsely : Prop := fnDecUnaryRow.holds Try.pinned (OpenSpec.ofChange fnDecUnaryWrong)

/-- 'laws.FnDecMost': WHATEVER THE INPUT: true; the input reads as it did. -/
def fnDecMostSpec : ChangeSpec := { name := "fnDecMost", fn := fun _ => fun
  | [d1, d2, d3, d4] => { results := [.lit (.bool true)], args := [d1, d2, d3, d4] }
  | _ => none }
def fnDecMostRow : OpenClaim := { program := "ytajjnlneacoooaa", sum := "569273694642078c553c8449e388d5cbbcda507baf6690dd742ba3f28406d8e2", func := "given.example/pub-fletching/laws.FnDecMost", spec := "fnDecMost", apart := false }
def FnDecMostSaid : Prop := fnDecMostRow.holds Try.pinned (OpenSpec.ofChange fnDecMostSpec)

/-- ITS FALSE NEIGHBOUR: 'it returns false'. Refute it at one input. -/
def fnDecMostWrong : ChangeSpec := { name := "fnDecMost", fn := fun _ => fun
  | [d1, d2, d3, d4] => { results := [.lit (.bool false)], args := [d1, d2, d3, d4] }
  | _ => none }
def FnDecMostWrongFalsely : Prop := fnDecMostRow.holds Try.pinned (OpenSpec.ofChange fnDecMostWrong)

/-- 'laws.FnDecScaledNarrow': WHATEVER THE INPUT: true; the input reads as it did. -/
def fnDecScaledNarrowSpec : ChangeSpec := { name := "fnDecScaledNarrow", fn := fun _ => fun
  | [d1, d2, d3, d4, d5] => { results := [.lit (.bool true)], args := [d1, d2, d3, d4, d5] }
  | _ => none }
def fnDecScaledNarrowRow : OpenClaim := { program := "ytajjnlneacoooaa", sum := "569273694642078c553c8449e388d5cbbcda507baf6690dd742ba3f28406d8e2", func := "given.example/pub-fletching/laws.FnDecScaledNarrow", spec := "fnDecScaledNarrow", unfollowed := true, recurses := true, apart := false }
def FnDecScaledNarrowSaid : Prop := fnDecScaledNarrowRow.holds Try.pinned (OpenSpec.ofChange fnDecScaledNarrowSpec)

/-- ITS FALSE NEIGHBOUR: 'it returns false'. Refute it at one input. -/
def fnDecScaledNarrowWrong : ChangeSpec := { name := "fnDecScaledNarrow", fn := fun _ => fun
  | [d1, d2, d3, d4, d5] => { results := [.lit (.bool false)], args := [d1, d2, d3, d4, d5] }
  | _ => none }
def FnDecScaledNarrowWrongFalsely : Prop := fnDecScaledNarrowRow.holds Try.pinned (OpenSpec.ofChange fnDecScaledNarrowWrong)

/- THE SECOND FORM. 'bulk': how many values and letters a reading holds, each counted each time it is reached (what is shared counts as often as it is met; a slice's spare places count too). A statement '..UptoSaid' is the law's where the arguments, and the package variables that the reading takes, are together of bulk at most 1048576: NARROWER than '..Said'. Prove '..Said' where nothing that the law and all that it calls make is longer than what came in: it says more and counts as full. Else prove '..UptoSaid'. A law counts once. -/
mutual
def uptoBulk {H : Type} : DataW H → Nat
  | .lit (.string bytes) => bytes.length + 1
  | .lit _ => 1
  | .nil => 1
  | .ptr d => uptoBulk d + 1
  | .slice elems spare => uptoBulkAll elems + uptoBulkAll spare + 1
  | .agg parts => uptoBulkAll parts + 1
  | .iface _ d => uptoBulk d + 1
  | .map entries => uptoBulkEntries entries + 1
  | .held _ => 1
def uptoBulkAll {H : Type} : List (DataW H) → Nat
  | [] => 0
  | d :: r => uptoBulk d + uptoBulkAll r
def uptoBulkEntries {H : Type} : List (Lit × DataW H) → Nat
  | [] => 0
  | x :: r => uptoBulkEntry x + uptoBulkEntries r
def uptoBulkEntry {H : Type} : Lit × DataW H → Nat
  | (.string bytes, d) => bytes.length + uptoBulk d + 1
  | (_, d) => uptoBulk d + 1
 end
def uptoSmall : (H : Type) → List (DataW H) → Bool := fun _ ds => decide (uptoBulkAll ds ≤ 1048576)
def OpenSpec.upto (s : _root_.Go.ChangeSpec) : _root_.Go.OpenSpec := { _root_.Go.OpenSpec.ofChange s with cond := some uptoSmall }

/-- 'laws.FnDecUnary', WHERE WHAT IT READS IS OF BULK AT MOST 1048576: true; the input reads as it did. -/
def fnDecUnaryUptoRow : OpenClaim := { program := "ytajjnlneacoooaa", sum := "569273694642078c553c8449e388d5cbbcda507baf6690dd742ba3f28406d8e2", func := "given.example/pub-fletching/laws.FnDecUnary", spec := "fnDecUnary", apart := false, narrowed := true }
def FnDecUnaryUptoSaid : Prop := fnDecUnaryUptoRow.holds Try.pinned (OpenSpec.upto fnDecUnarySpec)

/-- 'laws.FnDecMost', WHERE WHAT IT READS IS OF BULK AT MOST 1048576: true; the input reads as it did. -/
def fnDecMostUptoRow : OpenClaim := { program := "ytajjnlneacoooaa", sum := "569273694642078c553c8449e388d5cbbcda507baf6690dd742ba3f28406d8e2", func := "given.example/pub-fletching/laws.FnDecMost", spec := "fnDecMost", apart := false, narrowed := true }
def FnDecMostUptoSaid : Prop := fnDecMostUptoRow.holds Try.pinned (OpenSpec.upto fnDecMostSpec)

/-- 'laws.FnDecScaledNarrow', WHERE WHAT IT READS IS OF BULK AT MOST 1048576: true; the input reads as it did. -/
def fnDecScaledNarrowUptoRow : OpenClaim := { program := "ytajjnlneacoooaa", sum := "569273694642078c553c8449e388d5cbbcda507baf6690dd742ba3f28406d8e2", func := "given.example/pub-fletching/laws.FnDecScaledNarrow", spec := "fnDecScaledNarrow", unfollowed := true, recurses := true, apart := false, narrowed := true }
def FnDecScaledNarrowUptoSaid : Prop := fnDecScaledNarrowUptoRow.holds Try.pinned (OpenSpec.upto fnDecScaledNarrowSpec)

end Rows
end Go.Proofs.Ytajjnlneacoooaa
