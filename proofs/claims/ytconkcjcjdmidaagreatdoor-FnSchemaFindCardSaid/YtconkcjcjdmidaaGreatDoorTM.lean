/- Types of arrow that hold others: what is laid ahead. (YtconkcjcjdmidaaGreatDoor) -/
import Derived.Test.YtconkcjcjdmidaaGreatDoorTL
import Derived.Test.YtconkcjcjdmidaaGreatDoorTI
set_option linter.unusedVariables false
set_option linter.unusedSimpArgs false
namespace Go.Proofs.YtconkcjcjdmidaaGreatDoor
open Go.RowKit Go.ChangeShapes Go.WideShapes Go.ChangeAt Go
theorem rowsA_get (l : List Ar) : ∀ (k i : Nat), k < l.length → i < 5 → (rowsA l)[k * 5 + i]? = (l.getD k dA).cells[i]? := by
  induction l with
  | nil => intro k i hk; simp at hk
  | cons r l ih =>
    intro k i hk hi
    have e : rowsA (r :: l) = r.cells ++ rowsA l := by simp [rowsA]
    rw [e]
    match k, hk with
    | 0, _ =>
      rw [List.getElem?_append_left (by simp; omega)]
      simp
    | k + 1, hk =>
      rw [List.getElem?_append_right (by simp; omega), show (k + 1) * 5 + i - r.cells.length = k * 5 + i by simp; omega, ih k i (by simpa using hk) hi]
      simp
/-- fields of arrow's that are owned lie somewhere. -/
theorem arl_of_own {w : World} {base n : Nat} {v : Value} {l : List Ar} (h : w.ownsRow base 67 5 v n (rowsA l)) (hl : l.length = n) (hn : 0 < n) (hs : ∀ k, k < n → (l.getD k dA).nm.size ≤ maxLen) : ∃ b c, v = .slice (some ⟨b, 0, none⟩) l.length c ∧ base ≤ b ∧ l.length ≤ c ∧ ArL w b l := by
  subst hl
  rcases h.2 with ⟨_, h0⟩ | ⟨g, cap, cur, rfl, hb, hh, hn1, hcap, hcs, ht⟩
  · omega
  · have hc : ∀ k i, k < l.length → i < 5 → w.cell? ⟨g, k * 5 + i, none⟩ = (l.getD k dA).cells[i]? := by
      intro k i hk hi
      rw [cell_of_row w g _ cur 67 (0, 0) hh, ← rowsA_get l k i hk hi, ← ht, List.getElem?_take_of_lt (by omega)]
      simp
    refine ⟨g, cap, rfl, hb, hn1, (Array.getElem?_eq_some_iff.1 hh).1, fun k hk => ⟨⟨?_, ?_, ?_, ?_, ?_⟩, hs k hk⟩⟩
    · have := hc k 0 hk (by omega); simpa using this
    · have := hc k 1 hk (by omega); simpa using this
    · have := hc k 2 hk (by omega); simpa using this
    · have := hc k 3 hk (by omega); simpa using this
    · have := hc k 4 hk (by omega); simpa using this
/-- no pairs within, to level n. -/
def Nm (w : World) : Nat → Ty → Prop
  | 0, _ => True
  | n + 1, t => ∀ k, k < t.nf → (fAt w t.af k).nm' = 0 ∧ Nm w n (fAt w t.af k).ty
theorem structOf_nil (w : World) (A : Option Addr) (c : Nat) : Calls Tryz.prog 45 #[.slice A 0 c] w (PPt w) := by
  go_enter Tryz.func45, Tryz.ntmps45
  go_wp2_with fail
  go_ret
  exact ⟨_, rfl, (by repeat' (first | (with_reducible exact Below.refl _ _) | (with_reducible refine Below.setCell ?_ ?_ _) | (with_reducible refine bdrewN ?_ _) | (with_reducible refine bdrew ?_) | (with_reducible refine Below.alloc ?_ ?_ _) | exact Nat.le_refl _ | (simp; done)))⟩
/-- all fields of a type of arrow, that is right. -/
theorem fields_of (w0 : World) (n : Nat) (a : Option Addr) (nf c : Nat) (hfs : Fs w0 a nf c) (hn : nf ≤ 1000) (hok : ∀ k, k < nf → Ok w0 n (fAt w0 a k).ty ∧ (fAt w0 a k).nm' = 0 ∧ Nm w0 n (fAt w0 a k).ty ∧ ∀ m, TyAt w0 m (fAt w0 a k).ty)
    (ih : ∀ (W : World) (t : Ty), Ok w0 n t → Nm w0 n t → (∀ m, TyAt w0 m t) → Below w0.heap.size w0 W → Calls Tryz.prog 40 #[t.val] W (PIf W)) (w : World) (hb : Below w0.heap.size w0 w) :
    Calls Tryz.prog 20 #[.slice a nf c] w fun e w' => ∃ v l, e = .returned v ∧ l.length = nf ∧ Like w0 a l ∧ Below w.heap.size w w' ∧ ((nf = 0 ∧ ∃ A c', v = .slice A 0 c') ∨ ∃ b c, v = .slice (some ⟨b, 0, none⟩) l.length c ∧ w.heap.size ≤ b ∧ l.length ≤ c ∧ ArL w' b l) := by
  refine (arrowFields_of w0 w a nf c hfs hb hn (fun k hk W hW => arrowField_of W _ (hok k hk).2.1 (fun W' hW' => ih W' _ (hok k hk).1 (hok k hk).2.2.1 (hok k hk).2.2.2 (below_tr (below_tr hb hW hb.size) hW' (Nat.le_trans hb.size hW.size))))).mono ?_
  rintro e w' ⟨v, l, rfl, hl, hlk, hown, hbw⟩
  refine ⟨v, l, rfl, hl, hlk, hbw, ?_⟩
  rcases Nat.eq_zero_or_pos nf with hz | hz
  · subst hz
    rcases hown.2 with ⟨rfl, _⟩ | ⟨g, cap, cur, rfl, _⟩
    · exact .inl ⟨rfl, _, _, rfl⟩
    · exact .inl ⟨rfl, _, _, rfl⟩
  · exact .inr (arl_of_own hown hl hz (fun k hk => by
      rw [(hlk k (by omega)).1]
      obtain ⟨b, o, _, _, h⟩ := hfs.at_ (Below.refl _ _) hk
      exact h))
/-- the fields of a nested type, and the type itself. -/
def NR (w : World) (t : Ty) (b c : Nat) (l : List Ar) (x : Value) (wr : World) : Prop := ∃ k : Nat, x = .int .i64 (k : Int) ∧ k ≤ t.nf ∧ TB wr w.heap.size t ∧ Below w.heap.size w wr ∧ ArL wr b l
/-- what arrowFields leaves of a type's own fields. -/
def FsOf (W : World) (t : Ty) (e : Ending) (w' : World) : Prop :=
  ∃ (v : Value) (l : List Ar), e = .returned v ∧ l.length = t.nf ∧ Below W.heap.size W w' ∧ ((t.nf = 0 ∧ ∃ A c', v = .slice A 0 c') ∨ ∃ b c, v = .slice (some ⟨b, 0, none⟩) t.nf c ∧ (W.heap.size ≤ b ∧ 0 < t.nf) ∧ t.nf ≤ c ∧ ArL w' b l)
end Go.Proofs.YtconkcjcjdmidaaGreatDoor
