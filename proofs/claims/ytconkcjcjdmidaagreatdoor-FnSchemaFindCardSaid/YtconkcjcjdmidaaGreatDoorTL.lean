/- Maps of arrow. (YtconkcjcjdmidaaGreatDoor) -/
import Derived.Test.YtconkcjcjdmidaaGreatDoorTK
set_option linter.unusedVariables false
set_option linter.unusedSimpArgs false
namespace Go.Proofs.YtconkcjcjdmidaaGreatDoor
open Go.RowKit Go.ChangeShapes Go.WideShapes Go.ChangeAt Go
/-- two fields in a block of their own. -/
theorem two_fields (W : World) (r1 r2 : Ar) (h1 : r1.nm.size ≤ maxLen) (h2 : r2.nm.size ≤ maxLen) : ArL (W.alloc (.cells #[.string r1.nm, .iface r1.tid (.pointer (some r1.p)), .bool r1.nl, .slice r1.A 0 r1.c, .slice r1.A' 0 r1.c', .string r2.nm, .iface r2.tid (.pointer (some r2.p)), .bool r2.nl, .slice r2.A 0 r2.c, .slice r2.A' 0 r2.c'] 67)) W.heap.size [r1, r2] := by
  have hB := Blk.new (w := W) (g := W.heap.size) 67 #[.string r1.nm, .iface r1.tid (.pointer (some r1.p)), .bool r1.nl, .slice r1.A 0 r1.c, .slice r1.A' 0 r1.c', .string r2.nm, .iface r2.tid (.pointer (some r2.p)), .bool r2.nl, .slice r2.A 0 r2.c, .slice r2.A' 0 r2.c'] rfl
  refine ⟨by simp, fun k hk => ?_⟩
  match k, hk with
  | 0, _ => exact ⟨⟨by rw [hB.cell]; rfl, by rw [hB.cell]; rfl, by rw [hB.cell]; rfl, by rw [hB.cell]; rfl, by rw [hB.cell]; rfl⟩, h1⟩
  | 1, _ => exact ⟨⟨by rw [hB.cell]; rfl, by rw [hB.cell]; rfl, by rw [hB.cell]; rfl, by rw [hB.cell]; rfl, by rw [hB.cell]; rfl⟩, h2⟩
def PMp (w : World) (e : Ending) (w' : World) : Prop := ∃ g x, e = .returned (.pointer (some ⟨g, 0, none⟩)) ∧ w.heap.size ≤ g ∧ Blk w' g 187 #[x, .bool false] ∧ Below w.heap.size w w'
set_option maxRecDepth 100000 in
set_option maxHeartbeats 4000000 in
theorem mapOf_any (w : World) (r1 r2 : Ar) (hn : r1.nl = false) : Calls Tryz.prog 54 #[.agg r1.cells.toArray, .agg r2.cells.toArray] w (PMp w) := by
  obtain ⟨nm1, tid1, p1, nl1, A1, A1', c1, c1'⟩ := r1
  obtain ⟨nm2, tid2, p2, nl2, A2, A2', c2, c2'⟩ := r2
  simp only at hn
  subst hn
  obtain ⟨W2, hW2⟩ : ∃ W2, W2 = (w.alloc (.cells #[.string ⟨#[107, 101, 121]⟩, .iface tid1 (.pointer (some p1)), .bool false, .slice A1 0 c1, .slice A1' 0 c1'] 67)).alloc (.cells #[.string ⟨#[118, 97, 108, 117, 101]⟩, .iface tid2 (.pointer (some p2)), .bool nl2, .slice A2 0 c2, .slice A2' 0 c2'] 67) := ⟨_, rfl⟩
  have hsz : W2.heap.size = w.heap.size + 1 + 1 := by rw [hW2]; simp
  have hb2 : Below w.heap.size w W2 := by rw [hW2]; exact (by repeat' (first | (with_reducible exact Below.refl _ _) | (with_reducible refine Below.setCell ?_ ?_ _) | (with_reducible refine bdrewN ?_ _) | (with_reducible refine bdrew ?_) | (with_reducible refine Below.alloc ?_ ?_ _) | exact Nat.le_refl _ | (simp; done)))
  have hT := two_fields W2 ⟨⟨#[107, 101, 121]⟩, tid1, p1, false, A1, A1', c1, c1'⟩ ⟨⟨#[118, 97, 108, 117, 101]⟩, tid2, p2, nl2, A2, A2', c2, c2'⟩ (show (⟨#[107, 101, 121]⟩ : ByteArray).size ≤ maxLen by decide) (show (⟨#[118, 97, 108, 117, 101]⟩ : ByteArray).size ≤ maxLen by decide)
  rw [hsz] at hT
  have hb3 : Below w.heap.size w (W2.alloc (.cells #[.string ⟨#[107, 101, 121]⟩, .iface tid1 (.pointer (some p1)), .bool false, .slice A1 0 c1, .slice A1' 0 c1', .string ⟨#[118, 97, 108, 117, 101]⟩, .iface tid2 (.pointer (some p2)), .bool nl2, .slice A2 0 c2, .slice A2' 0 c2'] 67)) := hb2.alloc (by omega) _
  have hS := hide (structOf_any _ (w.heap.size + 1 + 1) 2 [⟨⟨#[107, 101, 121]⟩, tid1, p1, false, A1, A1', c1, c1'⟩, ⟨⟨#[118, 97, 108, 117, 101]⟩, tid2, p2, nl2, A2, A2', c2, c2'⟩] (by simp) hT (by simp))
  simp only [List.length_cons, List.length_nil] at hS
  replace hb3 := hide hb3
  rw [hW2] at hS hb3
  clear hT hb2 hsz hW2
  have hL := hide (fun (W : World) (nm : ByteArray) (tid : TypeId) (p : Addr) (nl : Bool) (A A' : Option Addr) (c c' : Nat) => listOf_any W nm tid p nl A A' c c')
  go_enter Tryz.func54, Tryz.ntmps54
  go_wp2_with (first
    | (go_at_call 45; (with_reducible refine (unhide hS).mono ?_); rintro e w2 ⟨p, rfl, hb4⟩)
    | (go_at_call 49; (with_reducible refine (unhide hL _ _ _ _ _ _ _ _ _).mono ?_); rintro e w3 ⟨p', rfl, hb5⟩)
    | fail)
  go_ret
  have h1 := unhide hb3
  have h2 := below_tr h1 hb4 h1.size
  have h3 := below_tr h2 hb5 h2.size
  exact ⟨w3.heap.size, _, rfl, h3.size, Blk.new _ _ rfl, h3.alloc h3.size _⟩
end Go.Proofs.YtconkcjcjdmidaaGreatDoor
