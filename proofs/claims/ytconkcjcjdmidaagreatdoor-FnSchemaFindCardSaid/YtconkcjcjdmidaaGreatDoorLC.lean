/- A long statement, cut in pieces. (YtconkcjcjdmidaaGreatDoor) -/
import Derived.Orders
import Derived.Tactics
namespace Go.Proofs.YtconkcjcjdmidaaGreatDoor
open Go
section
variable {P : Program} {ops : Array Oper} {Q Q' : Exit → Act → World → Prop}
theorem wp_mono2 {o : Oper} {a : Act} {w : World} {K K' : Act → World → Prop} (h : ∀ a w, K a w → K' a w) (hq : ∀ e a w, e ≠ Exit.normal → Q e a w → Q' e a w)
    (hh : o.wp P a w K Q) : o.wp P a w K' Q' := by
  unfold Oper.wp at *
  generalize (execOp a.eval o).run P w = r at *
  have hl : LetsOut Q → LetsOut Q' := fun ⟨a, w, h⟩ => ⟨a, w, hq _ _ _ (by simp) h⟩
  cases r with
  | ok n w' =>
    cases n <;> simp only [Oper.upon] at hh ⊢ <;>
      first
        | exact h _ _ hh
        | exact Calls.mono hh (fun e w'' he => by cases e <;> first | exact h _ _ he | exact hq _ _ _ (by simp) he | exact hl he)
        | exact Rows.mono hh (fun _ _ he => h _ _ he)
  | halt x w' => cases x <;> simp only [Oper.upon] at hh ⊢ <;> first | exact hq _ _ _ (by simp) hh | exact hh
/-- R holds behind the first piece; the rest goes on from there. -/
theorem wpList_cut (R : Act → World → Prop) (l2 : List Oper) (h2 : ∀ a w, R a w → wpList P ops Q l2 a w) : ∀ (l1 : List Oper) (a : Act) (w : World),
    wpList P ops (fun e a w => (e = .normal ∧ R a w) ∨ (e ≠ .normal ∧ Q e a w)) l1 a w → wpList P ops Q (l1 ++ l2) a w
  | [], a, w, h => by
    rcases h with ⟨_, h⟩ | ⟨h, _⟩
    · exact h2 a w h
    · exact absurd rfl h
  | o :: l1, a, w, h => by
    have hq : ∀ e a w, e ≠ Exit.normal → ((e = .normal ∧ R a w) ∨ (e ≠ .normal ∧ Q e a w)) → Q e a w := fun e a w he h => by
      rcases h with ⟨h, _⟩ | ⟨_, h⟩
      · exact absurd h he
      · exact h
    show wpList P ops Q (o :: (l1 ++ l2)) a w
    unfold wpList at h ⊢
    split
    · rename_i hw
      rw [if_pos hw] at h
      rcases h with h | ⟨h1, a', w', h3⟩
      · exact .inl (wp_mono2 (fun a w h => wpList_cut R l2 h2 l1 a w h) hq h)
      · exact .inr ⟨h1, a', w', hq _ _ _ (by simp) h3⟩
    · rename_i hw
      rw [if_neg hw] at h
      exact wpList_cut R l2 h2 l1 _ w h
/-- likewise: behind k operations. -/
theorem wpList_cutAt (k : Nat) (R : Act → World → Prop) {l : List Oper} {a : Act} {w : World}
    (h1 : wpList P ops (fun e a w => (e = .normal ∧ R a w) ∨ (e ≠ .normal ∧ Q e a w)) (l.take k) a w) (h2 : ∀ a w, R a w → wpList P ops Q (l.drop k) a w) : wpList P ops Q l a w := by
  rw [← List.take_append_drop k l]
  exact wpList_cut R _ h2 _ a w h1
end
end Go.Proofs.YtconkcjcjdmidaaGreatDoor
