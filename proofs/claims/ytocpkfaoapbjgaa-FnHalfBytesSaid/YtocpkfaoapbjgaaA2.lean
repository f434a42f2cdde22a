/- That 1 is 1, with what may have changed said as 'Mod'. -/
import Derived.Test.YtocpkfaoapbjgaaRows
import Derived.Test.YtocpkfaoapbjgaaL
import Derived.Test.YtocpkfaoapbjgaaA
set_option linter.unusedVariables false
set_option linter.unusedSimpArgs false
namespace Go.Proofs.Ytocpkfaoapbjgaa
open Go.ChangeShapes Go.WideShapes Go.ChangeAt Go.RowKit
set_option maxRecDepth 100000 in
theorem halves_mod (w : World) : Calls Try.prog 7 #[] w fun e w' => e = .returned (.bool true) ∧ Mod [] w w' := by
  have h40 := f32bits
  have h41 := f32from
  have e1 : bits .and .u32 0 1 = 0 := by decide
  have e2 : bits .and .u32 127 255 = 127 := by decide
  have e3 : bits .and .u16 (IntKind.u16.wrap 130048) 1023 = 0 := by decide
  have e4 : bits .or .u16 0 15360 = 15360 := by decide
  have e5 : bits .or .u16 15360 0 = 15360 := by decide
  go_enter Try.func7, Try.ntmps7
  go_wp2
  all_goals go_returns
  exact ⟨by kernel_rfl, by (repeat' (first | exact Mod.refl _ _ | assumption | apply Mod.drew | apply Mod.drewN | apply Mod.alloc | (refine Mod.setCell ?_ (by first | (left; simp; done) | (right; first | omega | (simp; omega) | (simp; done))) _)))⟩
end Go.Proofs.Ytocpkfaoapbjgaa
