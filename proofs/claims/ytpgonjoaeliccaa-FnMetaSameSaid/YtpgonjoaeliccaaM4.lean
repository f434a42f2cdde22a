/- The kit's contracts of the sort and of the comparison of texts, laid here; the order by keys. (Ytpgonjoaeliccaa) -/
import Derived.Test.YtpgonjoaeliccaaM0
import Derived.Test.YtpgonjoaeliccaaM3
import Derived.Test.YtpgonjoaeliccaaShelf
import Derived.Shelf.SlSortCmp.Whole1
import Derived.Shelf.SlSortCmp.NoneTotal
import Derived.Shelf.Small.Strs
import Derived.Ground.SlsfProg
import Derived.Ground.NamesProg
import Derived.BigQuiet
set_option linter.unusedVariables false
set_option linter.unusedSimpArgs false
namespace Go.Proofs.Ytpgonjoaeliccaa
open Go.RowKit Go.ChangeShapes Go.WideShapes Go.ChangeAt
attribute [local go_sem ↓] Go.wp_at_zero Go.wp_at_succ
theorem strCmp_any (a b : ByteArray) (w : World) : Calls Try.prog 15 #[.string a, .string b] w fun e w' => e = .returned (.int .i64 (Lib.compareBytes a.data.toList b.data.toList)) ∧ w' = w :=
  Any.strings_Compare Try.strCmp a b w
set_option maxRecDepth 100000 in
set_option maxHeartbeats 2000000 in
theorem closure_any (W : World) (gb b off n c x y : Nat) (s1 s2 : ByteArray) (q0 : W.cell? ⟨gb, 0, none⟩ = some (.slice (some ⟨b, off, none⟩) n c)) (hx : x < n) (hy : y < n) (hn : n ≤ 100)
    (cx : W.cell? ⟨b, off + x, none⟩ = some (.string s1)) (cy : W.cell? ⟨b, off + y, none⟩ = some (.string s2)) :
    Calls Try.prog 14 #[.int .i64 (x : Int), .int .i64 (y : Int), .pointer (some ⟨gb, 0, none⟩)] W fun e w' => e = .returned (.int .i64 (Lib.compareBytes s1.data.toList s2.data.toList)) ∧ ∃ q, w' = W.drewN q := by
  have hcon := hide (fun w => strCmp_any s1 s2 w)
  generalize Lib.compareBytes s1.data.toList s2.data.toList = r at *
  go_enter Try.func14, Try.ntmps14
  go_upto_region 1 with (fail)
  go_quiet ((go_at_call 15; refine Calls.quiet_of_same ((unhide hcon) _)))

  go_wp2_with fail
  go_ret
  exact ⟨rfl, _, rfl⟩
end Go.Proofs.Ytpgonjoaeliccaa
