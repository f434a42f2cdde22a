/- Metadata are equal: the walk. (Ytpgonjoaeliccaa) -/
import Derived.Test.YtpgonjoaeliccaaM8
set_option linter.unusedVariables false
set_option linter.unusedSimpArgs false
namespace Go.Proofs.Ytpgonjoaeliccaa
open Go.RowKit Go.ChangeShapes Go.WideShapes Go.ChangeAt
attribute [local go_sem ↓] Go.wp_at_zero Go.wp_at_succ
set_option maxRecDepth 100000 in
theorem len_any (W : World) (A A' : Option Addr) (n c n' c' : Nat) : Calls Try.prog 11 #[.agg #[.slice A n c, .slice A' n' c']] W fun e w' => e = .returned (.int .i64 (n : Int)) ∧ Below W.heap.size W w' := by
  have hb := hide ((Below.refl W.heap.size W).alloc (Nat.le_refl _) (.cells #[.slice A n c, .slice A' n' c'] 33))
  go_enter Try.func11, Try.ntmps11
  go_wp2_with fail
  go_ret
  exact ⟨rfl, unhide hb⟩
def KE (w : World) (a a' b b' : Value) (W : World) : Prop := Blk W w.heap.size 33 #[a, a'] ∧ Blk W (w.heap.size + 1) 33 #[b, b'] ∧ Below w.heap.size w W
theorem KE.below {w W W' : World} {a a' b b' : Value} (h : KE w a a' b b' W) (hb : Below W.heap.size W W') : KE w a a' b b' W' := ⟨h.1.below hb, h.2.1.below hb, below_tr h.2.2 hb h.2.2.size⟩
theorem KE.drew {w W : World} {a a' b b' : Value} (h : KE w a a' b b' W) : KE w a a' b b' W.drew := ⟨h.1, h.2.1, bdrew h.2.2⟩
theorem KE.facts {w W : World} {a a' b b' : Value} (h : KE w a a' b b' W) : W.cell? ⟨w.heap.size, 0, none⟩ = some a ∧ W.cell? ⟨w.heap.size, 1, none⟩ = some a' ∧ W.cell? ⟨w.heap.size + 1, 0, none⟩ = some b ∧ W.cell? ⟨w.heap.size + 1, 1, none⟩ = some b' ∧ KE w a a' b b' W :=
  ⟨by have := h.1.cell 0; simpa using this, by have := h.1.cell 1; simpa using this, by have := h.2.1.cell 0; simpa using this, by have := h.2.1.cell 1; simpa using this, h⟩
set_option maxRecDepth 100000 in
set_option maxHeartbeats 4000000 in
theorem equal_ne (w : World) (A A' C C' : Option Addr) (c c' d d' n n' m m' : Nat) (hne : n ≠ m) :
    Calls Try.prog 9 #[.agg #[.slice A n c, .slice A' n' c'], .agg #[.slice C m d, .slice C' m' d']] w fun e w' => e = .returned (.bool false) ∧ Below w.heap.size w w' := by
  have hd : ((n : Int) != (m : Int)) = true := by simp; omega
  go_enter Try.func9, Try.ntmps9
  go_upto_region 1 with (fail)
  have hk : KE w (.slice A n c) (.slice A' n' c') (.slice C m d) (.slice C' m' d') ((w.alloc (.cells #[.slice A n c, .slice A' n' c'] 33)).alloc (.cells #[.slice C m d, .slice C' m' d'] 33)) :=
    ⟨(Blk.new _ _ rfl).alloc _, Blk.new _ _ (by simp), ((Below.refl _ _).alloc (Nat.le_refl _) _).alloc (by simp) _⟩
  generalize ((w.alloc (.cells #[.slice A n c, .slice A' n' c'] 33)).alloc (.cells #[.slice C m d, .slice C' m' d'] 33)) = w1 at *
  have hS := hide (fun (W : World) (h : KE w (.slice A n c) (.slice A' n' c') (.slice C m d) (.slice C' m' d') W) => KE.facts h)
  obtain ⟨q0, q1, q2, q3, _⟩ := (unhide hS) _ hk
  go_region_held3 (fun W => W.cell? ⟨w.heap.size, 0, none⟩ = some (.slice A n c) ∧ W.cell? ⟨w.heap.size, 1, none⟩ = some (.slice A' n' c') ∧ W.cell? ⟨w.heap.size + 1, 0, none⟩ = some (.slice C m d) ∧ W.cell? ⟨w.heap.size + 1, 1, none⟩ = some (.slice C' m' d') ∧ KE w (.slice A n c) (.slice A' n' c') (.slice C m d) (.slice C' m' d') W)
    ((refine (unhide hS) _ ?_; (repeat' (first | (with_reducible assumption) | (with_reducible refine KE.drew ?_)))))
    (first
      | (go_at_call 11; (with_reducible refine (len_any _ _ _ _ _ _ _).mono ?_); rintro e wx ⟨rfl, hbx⟩; have kd := KE.below (by go_split_ands; assumption) hbx))
  go_wp2_with fail
  go_ret
  exact ⟨rfl, kd.2.2⟩
end Go.Proofs.Ytpgonjoaeliccaa
