/- Calls that the three statements about halves share: that 1 is 1. -/
import Derived.Test.YtocpkfaoapbjgaaRows
import Derived.WalkKit
import Derived.ProofKit
import Derived.OpenShut
import Derived.WalkLawsBesides
import Derived.Handy
set_option linter.unusedVariables false
set_option linter.unusedSimpArgs false
namespace Go.Proofs.Ytocpkfaoapbjgaa
open Go.ChangeShapes Go.WideShapes Go.ChangeAt Go.RowKit
theorem grown_trans {a b c : World} (h : Grown a b) (k : Grown b c) : Grown a c :=
  ⟨World.keptBut_trans h.1 k.1, fun x => (k.2.1 x).trans (h.2.1 x), Nat.le_trans h.2.2 k.2.2⟩
theorem f32bits (b : Nat) (w : World) : (callFunc 40 #[.float .f32 b]).run Try.prog w = .ok (.value (.int .u32 b)) w := by kernel_rfl
theorem f32from (n : Int) (w : World) : (callFunc 41 #[.int .u32 n]).run Try.prog w = .ok (.value (.float .f32 n.toNat)) w := by kernel_rfl
set_option maxRecDepth 100000 in
theorem halves_any (w : World) : Calls Try.prog 7 #[] w fun e w' => e = .returned (.bool true) ∧ Grown w w' := by
  have h40 := f32bits
  have h41 := f32from
  have e1 : bits .and .u32 0 1 = 0 := by decide
  have e2 : bits .and .u32 127 255 = 127 := by decide
  have e3 : bits .and .u16 (IntKind.u16.wrap 130048) 1023 = 0 := by decide
  have e4 : bits .or .u16 0 15360 = 15360 := by decide
  have e5 : bits .or .u16 15360 0 = 15360 := by decide
  go_enter Try.func7, Try.ntmps7
  go_wp2
  all_goals go_returns
  exact ⟨by kernel_rfl, by go_grown⟩
end Go.Proofs.Ytocpkfaoapbjgaa
