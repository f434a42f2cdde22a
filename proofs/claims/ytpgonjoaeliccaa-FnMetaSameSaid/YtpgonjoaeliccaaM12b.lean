/- Two pairs compared. (Ytpgonjoaeliccaa) -/
import Derived.Test.YtpgonjoaeliccaaM12
import Derived.Laws.StructEq
set_option linter.unusedVariables false
set_option linter.unusedSimpArgs false
namespace Go.Proofs.Ytpgonjoaeliccaa
open Go.RowKit Go.ChangeShapes Go.WideShapes Go.ChangeAt
theorem eqG25 : Try.prog.eqGuardType Try.prog.depth 25 = false := by kernel_rfl
theorem eqH25 : Try.prog.stoodInHeld 25 = false := by kernel_rfl
theorem eqU25 : Try.prog.underlying 25 = some (.struct (Try.prog.fieldsOf 25)) := by kernel_rfl
theorem eqPr (s1 s2 t1 t2 : ByteArray) (w : World) : (binOp .eql 25 (.agg #[.string s1, .string s2]) (.agg #[.string t1, .string t2])).run Try.prog w = .ok (.bool ((s1.toList == t1.toList) && (s2.toList == t2.toList))) w := by
  rw [run_eql_struct, run_equalIn_agg w 9999 25 _ _ eqU25 eqH25]
  simp [Op.eqFields, Program.fieldsOf, Try.underlying25, go_sem]
  by_cases h1 : s1.toList = t1.toList
  · by_cases h2 : s2.toList = t2.toList <;> simp [h1, h2]
  · simp [h1]
theorem pr_dec (s1 s2 t1 t2 : ByteArray) : decide (((s1, s2) : Pr) = (t1, t2)) = ((s1.toList == t1.toList) && (s2.toList == t2.toList)) := by
  by_cases h1 : s1 = t1
  · by_cases h2 : s2 = t2
    · subst h1 h2; simp
    · obtain ⟨_, h4, _⟩ := ba_ne h2
      rw [h4, Bool.and_false]
      simp [h2]
  · obtain ⟨_, h4, _⟩ := ba_ne h1
    rw [h4, Bool.false_and]
    simp [h1]
end Go.Proofs.Ytpgonjoaeliccaa
