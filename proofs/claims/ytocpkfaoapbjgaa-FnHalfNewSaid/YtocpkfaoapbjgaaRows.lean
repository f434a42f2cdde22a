/-
  No cell of these rows narrows 'for every input' (looked for: loops, veiled, ifaces, maps, wideKeys, modest, calm, conditions, laid).
  DERIVED. THE GIVEN ROWS OF THIS SEAT. 3 by the template 'for every input the law returns true; each argument reads behind the call as it read before'; 0 by the template 'total and deterministic' (their statements: YtocpkfaoapbjgaaTotals.lean).
  GIVEN WITH THE SEED: the statements are not yours to turn. If you find one false, say at which input.
  Laid BY PROGRAM, IN A SANDBOX (cutbox-rows.mjs): the forced cells as the released guide's own fill.sh prints them over the translation addd5fb19b161c20… (all of the seat's roots in one cut). By AI agents, Wed Nov 11 2026. No macro, syntax, notation, axiom, sorry.
-/
import Derived.Test.YtocpkfaoapbjgaaChecked
import GoSem.Claim
import GoSem.ClaimJoined
import GoSem.ClaimMapViews
import Derived.JoinedTies
import Derived.KernelRfl
namespace Go.Proofs.Ytocpkfaoapbjgaa
/- THE CELL 'sum', in the pinned program and in every row, IS THE sha256 OF THE DUMP (.gsa) THAT YtocpkfaoapbjgaaProg.lean LOADS. Nothing in Lean hashes anything: it is a label: what it is worth is what the hold of that sum in a sandbox is worth. -/
noncomputable def Try.pinned : Pinned := { name := "ytocpkfaoapbjgaa", sum := "addd5fb19b161c202a3f35daca301cf5dd599001f9102a4fd832d302817d0ed7", checked := Try.checked }
namespace Rows
def none {H : Type} : Left H := { results := [], args := [] }

/-- 'laws.FnHalfUnary': WHATEVER THE INPUT: true; the input reads as it did. -/
def fnHalfUnarySpec : ChangeSpec := { name := "fnHalfUnary", fn := fun _ => fun
  | [d] => { results := [.lit (.bool true)], args := [d] }
  | _ => none }
def fnHalfUnaryRow : OpenClaim := { program := "ytocpkfaoapbjgaa", sum := "addd5fb19b161c202a3f35daca301cf5dd599001f9102a4fd832d302817d0ed7", func := "given.example/pub-fletching/laws.FnHalfUnary", spec := "fnHalfUnary", inPlace := ["math.Float32bits", "math.Float32frombits"], apart := false }
def FnHalfUnarySaid : Prop := fnHalfUnaryRow.holds Try.pinned (OpenSpec.ofChange fnHalfUnarySpec)

/-- ITS FALSE NEIGHBOUR: 'it returns false'. Refute it at one input. -/
def fnHalfUnaryWrong : ChangeSpec := { name := "fnHalfUnary", fn := fun _ => fun
  | [d] => { results := [.lit (.bool false)], args := [d] }
  | _ => none }
def FnHalfUnaryWrongFalsely : Prop := fnHalfUnaryRow.holds Try.pinned (OpenSpec.ofChange fnHalfUnaryWrong)

/-- 'laws.FnHalfBytes': WHATEVER THE INPUT: true; the input reads as it did. -/
def fnHalfBytesSpec : ChangeSpec := { name := "fnHalfBytes", fn := fun _ => fun
  | [d] => { results := [.lit (.bool true)], args := [d] }
  | _ => none }
def fnHalfBytesRow : OpenClaim := { program := "ytocpkfaoapbjgaa", sum := "addd5fb19b161c202a3f35daca301cf5dd599001f9102a4fd832d302817d0ed7", func := "given.example/pub-fletching/laws.FnHalfBytes", spec := "fnHalfBytes", inPlace := ["math.Float32bits", "math.Float32frombits"], named := ["encoding/binary.LittleEndian"], apart := false }
def FnHalfBytesSaid : Prop := fnHalfBytesRow.holds Try.pinned (OpenSpec.ofChange fnHalfBytesSpec)

/-- ITS FALSE NEIGHBOUR: 'it returns false'. Refute it at one input. -/
def fnHalfBytesWrong : ChangeSpec := { name := "fnHalfBytes", fn := fun _ => fun
  | [d] => { results := [.lit (.bool false)], args := [d] }
  | _ => none }
def FnHalfBytesWrongFalsely : Prop := fnHalfBytesRow.holds Try.pinned (OpenSpec.ofChange fnHalfBytesWrong)

/-- 'laws.FnHalfNew': WHATEVER THE INPUT: true; the input reads as it did. -/
def fnHalfNewSpec : ChangeSpec := { name := "fnHalfNew", fn := fun _ => fun
  | [d] => { results := [.lit (.bool true)], args := [d] }
  | _ => none }
def fnHalfNewRow : OpenClaim := { program := "ytocpkfaoapbjgaa", sum := "addd5fb19b161c202a3f35daca301cf5dd599001f9102a4fd832d302817d0ed7", func := "given.example/pub-fletching/laws.FnHalfNew", spec := "fnHalfNew", inPlace := ["math.Float64bits", "math.Float64frombits", "math.Float32bits", "math.Float32frombits"], apart := false }
def FnHalfNewSaid : Prop := fnHalfNewRow.holds Try.pinned (OpenSpec.ofChange fnHalfNewSpec)

/-- ITS FALSE NEIGHBOUR: 'it returns false'. Refute it at one input. -/
def fnHalfNewWrong : ChangeSpec := { name := "fnHalfNew", fn := fun _ => fun
  | [d] => { results := [.lit (.bool false)], args := [d] }
  | _ => none }
def FnHalfNewWrongFalsely : Prop := fnHalfNewRow.holds Try.pinned (OpenSpec.ofChange fnHalfNewWrong)

/- THE SECOND FORM. 'bulk': how many values and letters a reading holds, each counted each time it is reached (what is shared counts as often as it is met; a slice's spare places count too). A statement '..UptoSaid' is the law's where the arguments, and the package variables that the reading takes, are together of bulk at most 1048576: NARROWER than '..Said'. Prove '..Said' where nothing that the law and all that it calls make is longer than what came in: it says more and counts as full. Else prove '..UptoSaid'. A law counts once. -/
mutual
def uptoBulk {H : Type} : DataW H → Nat
  | .lit (.string bytes) => bytes.length + 1
  | .lit _ => 1
  | .nil => 1
  | .ptr d => uptoBulk d + 1
  | .slice elems spare => uptoBulkAll elems + uptoBulkAll spare + 1
  | .agg parts => uptoBulkAll parts + 1
  | .iface _ d => uptoBulk d + 1
  | .map entries => uptoBulkEntries entries + 1
  | .held _ => 1
def uptoBulkAll {H : Type} : List (DataW H) → Nat
  | [] => 0
  | d :: r => uptoBulk d + uptoBulkAll r
def uptoBulkEntries {H : Type} : List (Lit × DataW H) → Nat
  | [] => 0
  | x :: r => uptoBulkEntry x + uptoBulkEntries r
def uptoBulkEntry {H : Type} : Lit × DataW H → Nat
  | (.string bytes, d) => bytes.length + uptoBulk d + 1
  | (_, d) => uptoBulk d + 1
 end
def uptoSmall : (H : Type) → List (DataW H) → Bool := fun _ ds => decide (uptoBulkAll ds ≤ 1048576)
def OpenSpec.upto (s : _root_.Go.ChangeSpec) : _root_.Go.OpenSpec := { _root_.Go.OpenSpec.ofChange s with cond := some uptoSmall }

/-- 'laws.FnHalfUnary', WHERE WHAT IT READS IS OF BULK AT MOST 1048576: true; the input reads as it did. -/
def fnHalfUnaryUptoRow : OpenClaim := { program := "ytocpkfaoapbjgaa", sum := "addd5fb19b161c202a3f35daca301cf5dd599001f9102a4fd832d302817d0ed7", func := "given.example/pub-fletching/laws.FnHalfUnary", spec := "fnHalfUnary", inPlace := ["math.Float32bits", "math.Float32frombits"], apart := false, narrowed := true }
def FnHalfUnaryUptoSaid : Prop := fnHalfUnaryUptoRow.holds Try.pinned (OpenSpec.upto fnHalfUnarySpec)

/-- 'laws.FnHalfBytes', WHERE WHAT IT READS IS OF BULK AT MOST 1048576: true; the input reads as it did. -/
def fnHalfBytesUptoRow : OpenClaim := { program := "ytocpkfaoapbjgaa", sum := "addd5fb19b161c202a3f35daca301cf5dd599001f9102a4fd832d302817d0ed7", func := "given.example/pub-fletching/laws.FnHalfBytes", spec := "fnHalfBytes", inPlace := ["math.Float32bits", "math.Float32frombits"], named := ["encoding/binary.LittleEndian"], apart := false, narrowed := true }
def FnHalfBytesUptoSaid : Prop := fnHalfBytesUptoRow.holds Try.pinned (OpenSpec.upto fnHalfBytesSpec)

/-- 'laws.FnHalfNew', WHERE WHAT IT READS IS OF BULK AT MOST 1048576: true; the input reads as it did. -/
def fnHalfNewUptoRow : OpenClaim := { program := "ytocpkfaoapbjgaa", sum := "addd5fb19b161c202a3f35daca301cf5dd599001f9102a4fd832d302817d0ed7", func := "given.example/pub-fletching/laws.FnHalfNew", spec := "fnHalfNew", inPlace := ["math.Float64bits", "math.Float64frombits", "math.Float32bits", "math.Float32frombits"], apart := false, narrowed := true }
def FnHalfNewUptoSaid : Prop := fnHalfNewUptoRow.holds Try.pinned (OpenSpec.upto fnHalfNewSpec)

end Rows
end Go.Proofs.Ytocpkfaoapbjgaa
