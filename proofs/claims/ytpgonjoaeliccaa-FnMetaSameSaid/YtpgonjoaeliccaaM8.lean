/- Metadata are equal: what Equal answers. (Ytpgonjoaeliccaa) -/
import Derived.Test.YtpgonjoaeliccaaM7
set_option linter.unusedVariables false
set_option linter.unusedSimpArgs false
namespace Go.Proofs.Ytpgonjoaeliccaa
open Go.RowKit Go.ChangeShapes Go.WideShapes Go.ChangeAt
attribute [local go_sem ↓] Go.wp_at_zero Go.wp_at_succ
/-- the first k places agree. -/
def eqTo (la lb : List Pr) (k : Nat) : Bool := (List.range k).all fun i => decide (la.getD ((sIdx (kb la)).getD i 0) dP = lb.getD ((sIdx (kb lb)).getD i 0) dP)
def metaB (la lb : List Pr) : Bool := decide (la.length = lb.length) && eqTo la lb la.length
theorem eqTo_succ (la lb : List Pr) (k : Nat) : eqTo la lb (k + 1) = (eqTo la lb k && decide (la.getD ((sIdx (kb la)).getD k 0) dP = lb.getD ((sIdx (kb lb)).getD k 0) dP)) := by
  unfold eqTo
  rw [List.range_succ, List.all_append]
  simp
theorem eqTo_le (la lb : List Pr) (k n : Nat) (h : k ≤ n) (hk : eqTo la lb k = false) : eqTo la lb n = false := by
  unfold eqTo at *
  rw [List.all_eq_false] at *
  obtain ⟨i, hi, h2⟩ := hk
  exact ⟨i, by simp at hi ⊢; omega, h2⟩
theorem metaB_same (l : List Pr) : metaB l l = true := by
  unfold metaB eqTo
  simp
theorem metaB_mem (la lb : List Pr) (h : metaB la lb = true) : la.length = lb.length ∧ ∀ p ∈ la, p ∈ lb := by
  unfold metaB at h
  simp only [Bool.and_eq_true, decide_eq_true_eq] at h
  refine ⟨h.1, fun p hp => ?_⟩
  obtain ⟨i, hi, rfl⟩ := List.mem_iff_getElem.1 hp
  have h1 : i ∈ sIdx (kb la) := sIdx_mem _ _ (by rw [kb_len]; exact hi)
  obtain ⟨k, hk, e⟩ := List.mem_iff_getElem.1 h1
  rw [sIdx_len, kb_len] at hk
  have h2 := h.2
  unfold eqTo at h2
  rw [List.all_eq_true] at h2
  have h3 := h2 k (by simpa using hk)
  simp only [decide_eq_true_eq] at h3
  have e1 : (sIdx (kb la)).getD k 0 = i := by
    rw [List.getD_eq_getElem?_getD, List.getElem?_eq_getElem (by rw [sIdx_len, kb_len]; exact hk)]
    simpa using e
  have hk2 : k < (sIdx (kb lb)).length := by rw [sIdx_len, kb_len, ← h.1]; exact hk
  have e2 : (sIdx (kb lb)).getD k 0 = (sIdx (kb lb))[k] := by
    rw [List.getD_eq_getElem?_getD, List.getElem?_eq_getElem hk2]; rfl
  have h4 := sIdx_lt (kb lb) _ (List.getElem_mem hk2)
  rw [kb_len] at h4
  rw [e1, e2, List.getD_eq_getElem?_getD, List.getElem?_eq_getElem hi, List.getD_eq_getElem?_getD, List.getElem?_eq_getElem h4] at h3
  simp only [Option.getD_some] at h3
  rw [h3]
  exact List.getElem_mem h4
end Go.Proofs.Ytpgonjoaeliccaa
