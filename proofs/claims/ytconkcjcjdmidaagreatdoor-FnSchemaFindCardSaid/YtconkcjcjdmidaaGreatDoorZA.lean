/- What a schema finds; a schema that is searched. (YtconkcjcjdmidaaGreatDoor) -/
import Derived.Test.YtconkcjcjdmidaaGreatDoorTZ
set_option linter.unusedVariables false
set_option linter.unusedSimpArgs false
namespace Go.Proofs.YtconkcjcjdmidaaGreatDoor
open Go.RowKit Go.ChangeShapes Go.WideShapes Go.ChangeAt Go Go.Maps
attribute [local go_sem ↓] Go.wp_at_zero Go.wp_at_succ
def PInts (w : World) (zs : List Int) (e : Ending) (w' : World) : Prop := ∃ v, e = .returned v ∧ ReadZ w' v zs ∧ (∀ g, v.ownBlock = some g → w.heap.size ≤ g) ∧ Below w.heap.size w w'
theorem cloneZ_any (w : World) (v : Value) (zs : List Int) (h : ReadZ w v zs) (hl : zs.length ≤ 1000) : Calls Tryz.prog 21 #[v] w (PInts w zs) := by
  rcases h with ⟨rfl, rfl⟩ | ⟨g, c, rfl, hc, hg, h0, hz⟩
  · refine (AnyG.slices_Clone_int_nil Tryz.cloneL 0 0 w).mono ?_
    rintro e w' ⟨rfl, rfl⟩
    exact ⟨_, rfl, .inl ⟨rfl, rfl⟩, (fun g hg => nomatch hg), Below.refl _ _⟩
  · refine (AnyG.slices_Clone_int Tryz.cloneL g 0 zs.length c zs w (Nat.le_refl _) (by omega) (fun j hj => by rw [Nat.zero_add]; exact hz j hj)).mono ?_
    rintro e w' ⟨v', rfl, ho, _, hb⟩
    rw [List.take_length] at ho
    exact ⟨v', rfl, readZ_own ho rfl h0, (fun g hg => (ho.lt g hg).1), hb⟩
theorem plc_len (l : List Ar) (k : Nat) (s : ByteArray) : (plc l k s).length ≤ k := by
  unfold plc
  rw [List.length_map]
  exact Nat.le_trans (List.length_filter_le _ _) (by simp)
theorem fieldIndices_any (w : World) (B gs : Nat) (l : List Ar) (h : Sc B w gs l) (hl : l.length ≤ 20) (s : ByteArray) (hs : s.size ≤ maxLen) : Calls Tryz.prog 12 #[.pointer (some ⟨gs, 0, none⟩), .string s] w (PInts w (plc l l.length s)) := by
  obtain ⟨gb, v, n, hc, hlk, hz, _, _⟩ := sc_look h hl s hs
  have hcl := hide (cloneZ_any w v _ hz (by have := plc_len l l.length s; omega))
  generalize plc l l.length s = zs at *
  clear h hz
  go_enter Tryz.func12, Tryz.ntmps12
  go_wp2_with (first | (go_at_call 21; (with_reducible refine (unhide hcl).mono ?_); rintro e w2 ⟨v2, rfl, hz2, hg2, hb2⟩; replace hz2 := hide hz2; replace hg2 := hide hg2; replace hb2 := hide hb2) | fail)
  go_ret
  exact ⟨_, rfl, unhide hz2, unhide hg2, unhide hb2⟩
def PHas (w : World) (b : Bool) (e : Ending) (w' : World) : Prop := e = .returned (.bool b) ∧ w = w'
theorem hasField_any (w : World) (B gs : Nat) (l : List Ar) (h : Sc B w gs l) (hl : l.length ≤ 20) (s : ByteArray) (hs : s.size ≤ maxLen) : Calls Tryz.prog 13 #[.pointer (some ⟨gs, 0, none⟩), .string s] w (PHas w (decide (0 < (plc l l.length s).length))) := by
  obtain ⟨gb, v, n, hc, hlk, hz, ⟨A, c, rfl⟩, hn⟩ := sc_look h hl s hs
  have hlen := plc_len l l.length s
  rw [← hn]
  have hF := hide (fun (b : Bool) (hb : decide (0 < n) = b) => (show PHas w (decide (0 < n)) (.returned (.bool b)) w from ⟨by rw [hb], rfl⟩))
  clear h hz hn
  rcases Nat.eq_zero_or_pos n with h0 | h0
  · subst h0
    go_enter Tryz.func13, Tryz.ntmps13
    go_wp2_with fail
    go_ret
    exact unhide hF _ (by simp)
  · go_enter Tryz.func13, Tryz.ntmps13
    go_wp2_with fail
    go_ret
    exact unhide hF _ (by simp [h0])
def PNum (w : World) (n : Nat) (e : Ending) (w' : World) : Prop := e = .returned (.int .i64 (n : Int)) ∧ w = w'
theorem numFields_any (w : World) (B gs : Nat) (l : List Ar) (h : Sc B w gs l) : Calls Tryz.prog 14 #[.pointer (some ⟨gs, 0, none⟩)] w (PNum w l.length) := by
  obtain ⟨b, c, gb, base, D, x, y, h1, _⟩ := h
  have c0 := h1.cell 0
  simp at c0
  clear h1
  go_enter Tryz.func14, Tryz.ntmps14
  go_wp2_with fail
  go_ret
  exact ⟨rfl, rfl⟩
end Go.Proofs.YtconkcjcjdmidaaGreatDoor
