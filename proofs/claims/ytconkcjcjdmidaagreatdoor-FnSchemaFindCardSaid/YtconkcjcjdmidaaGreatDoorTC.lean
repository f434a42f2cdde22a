/- Types of arrow: numbers; lists. (YtconkcjcjdmidaaGreatDoor) -/
import Derived.Test.YtconkcjcjdmidaaGreatDoorT8
import Derived.BigQuiet
import Derived.Deep.QuietTactic
import Derived.BigRegion
import Derived.Deep.RegionHeld3
set_option linter.unusedVariables false
set_option linter.unusedSimpArgs false
namespace Go.Proofs.YtconkcjcjdmidaaGreatDoor
open Go.RowKit Go.ChangeShapes Go.WideShapes Go.ChangeAt Go
/-- a type of arrow, not nil. -/
def PIf (w : World) (e : Ending) (w' : World) : Prop := ∃ tid p, e = .returned (.iface tid (.pointer (some p))) ∧ Below w.heap.size w w'
/-- a pointer, not nil. -/
def PPt (w : World) (e : Ending) (w' : World) : Prop := ∃ p, e = .returned (.pointer (some p)) ∧ Below w.heap.size w w'
/-- a field of arrow's own, of which nothing else is said. -/
abbrev afv (nm : ByteArray) (tid : TypeId) (p : Addr) (nl : Bool) (A A' : Option Addr) (c c' : Nat) : Value := .agg #[.string nm, .iface tid (.pointer (some p)), .bool nl, .slice A 0 c, .slice A' 0 c']
set_option maxRecDepth 100000 in
theorem arrowInt_any (w : World) (t : Ty) (h : t.wd = 8 ∨ t.wd = 16 ∨ t.wd = 32 ∨ t.wd = 64) : Calls Tryz.prog 42 #[t.val] w (PIf w) := by
  obtain ⟨kd, wd, sg, un, pr, sc, zn, fl, ai, ni, ci, af, nf, cf⟩ := t
  simp only at h ⊢
  have hF := hide (fun (W : World) (tid : TypeId) (p : Addr) (h : Below w.heap.size w W) => (show PIf w (.returned (.iface tid (.pointer (some p)))) W from ⟨tid, p, rfl, h⟩))
  rcases h with rfl | rfl | rfl | rfl <;> cases sg
  all_goals
    go_enter Tryz.func42, Tryz.ntmps42
    go_wp2_with fail
    go_ret
    exact unhide hF _ _ _ (by repeat' (first | (with_reducible exact Below.refl _ _) | (with_reducible refine Below.setCell ?_ ?_ _) | (with_reducible refine bdrewN ?_ _) | (with_reducible refine bdrew ?_) | (with_reducible refine Below.alloc ?_ ?_ _) | exact Nat.le_refl _ | (simp; done)))
set_option maxRecDepth 100000 in
theorem arrowDecimal_any (w : World) (t : Ty) (h : t.wd = 32 ∨ t.wd = 64 ∨ t.wd = 128 ∨ t.wd = 256) : Calls Tryz.prog 43 #[t.val] w (PIf w) := by
  obtain ⟨kd, wd, sg, un, pr, sc, zn, fl, ai, ni, ci, af, nf, cf⟩ := t
  simp only at h ⊢
  have hF := hide (fun (W : World) (tid : TypeId) (p : Addr) (h : Below w.heap.size w W) => (show PIf w (.returned (.iface tid (.pointer (some p)))) W from ⟨tid, p, rfl, h⟩))
  rcases h with rfl | rfl | rfl | rfl
  all_goals
    go_enter Tryz.func43, Tryz.ntmps43
    go_wp2_with fail
    go_quiet (fail)
    go_wp2_with fail
    go_ret
    exact unhide hF _ _ _ (by repeat' (first | (with_reducible exact Below.refl _ _) | (with_reducible refine Below.setCell ?_ ?_ _) | (with_reducible refine bdrewN ?_ _) | (with_reducible refine bdrew ?_) | (with_reducible refine Below.alloc ?_ ?_ _) | exact Nat.le_refl _ | (simp; done)))
theorem listOf_any (w : World) (nm : ByteArray) (tid : TypeId) (p : Addr) (nl : Bool) (A A' : Option Addr) (c c' : Nat) : Calls Tryz.prog 49 #[afv nm tid p nl A A' c c'] w (PPt w) := by
  go_enter Tryz.func49, Tryz.ntmps49
  go_wp2_with fail
  go_ret
  exact ⟨_, rfl, (by repeat' (first | (with_reducible exact Below.refl _ _) | (with_reducible refine Below.setCell ?_ ?_ _) | (with_reducible refine bdrewN ?_ _) | (with_reducible refine bdrew ?_) | (with_reducible refine Below.alloc ?_ ?_ _) | exact Nat.le_refl _ | (simp; done)))⟩
theorem largeListOf_any (w : World) (nm : ByteArray) (tid : TypeId) (p : Addr) (nl : Bool) (A A' : Option Addr) (c c' : Nat) : Calls Tryz.prog 50 #[afv nm tid p nl A A' c c'] w (PPt w) := by
  go_enter Tryz.func50, Tryz.ntmps50
  go_wp2_with fail
  go_ret
  exact ⟨_, rfl, (by repeat' (first | (with_reducible exact Below.refl _ _) | (with_reducible refine Below.setCell ?_ ?_ _) | (with_reducible refine bdrewN ?_ _) | (with_reducible refine bdrew ?_) | (with_reducible refine Below.alloc ?_ ?_ _) | exact Nat.le_refl _ | (simp; done)))⟩
theorem listViewOf_any (w : World) (nm : ByteArray) (tid : TypeId) (p : Addr) (nl : Bool) (A A' : Option Addr) (c c' : Nat) : Calls Tryz.prog 51 #[afv nm tid p nl A A' c c'] w (PPt w) := by
  go_enter Tryz.func51, Tryz.ntmps51
  go_wp2_with fail
  go_ret
  exact ⟨_, rfl, (by repeat' (first | (with_reducible exact Below.refl _ _) | (with_reducible refine Below.setCell ?_ ?_ _) | (with_reducible refine bdrewN ?_ _) | (with_reducible refine bdrew ?_) | (with_reducible refine Below.alloc ?_ ?_ _) | exact Nat.le_refl _ | (simp; done)))⟩
theorem largeListViewOf_any (w : World) (nm : ByteArray) (tid : TypeId) (p : Addr) (nl : Bool) (A A' : Option Addr) (c c' : Nat) : Calls Tryz.prog 52 #[afv nm tid p nl A A' c c'] w (PPt w) := by
  go_enter Tryz.func52, Tryz.ntmps52
  go_wp2_with fail
  go_ret
  exact ⟨_, rfl, (by repeat' (first | (with_reducible exact Below.refl _ _) | (with_reducible refine Below.setCell ?_ ?_ _) | (with_reducible refine bdrewN ?_ _) | (with_reducible refine bdrew ?_) | (with_reducible refine Below.alloc ?_ ?_ _) | exact Nat.le_refl _ | (simp; done)))⟩
theorem fixedListOf_any (w : World) (n : Int) (nm : ByteArray) (tid : TypeId) (p : Addr) (nl : Bool) (A A' : Option Addr) (c c' : Nat) (hn : 0 < n) : Calls Tryz.prog 53 #[.int .i32 n, afv nm tid p nl A A' c c'] w (PPt w) := by
  have hn' : ¬ n ≤ 0 := by omega
  go_enter Tryz.func53, Tryz.ntmps53
  go_wp2_with fail
  go_ret
  exact ⟨_, rfl, (by repeat' (first | (with_reducible exact Below.refl _ _) | (with_reducible refine Below.setCell ?_ ?_ _) | (with_reducible refine bdrewN ?_ _) | (with_reducible refine bdrew ?_) | (with_reducible refine Below.alloc ?_ ?_ _) | exact Nat.le_refl _ | (simp; done)))⟩
theorem runEndsOf_any (w : World) (t1 t2 : TypeId) (p1 p2 : Addr) : Calls Tryz.prog 48 #[.iface t1 (.pointer (some p1)), .iface t2 (.pointer (some p2))] w fun e w' => e = .returned (.pointer (some ⟨w.heap.size, 0, none⟩)) ∧ (∃ a b c : Value, Blk w' w.heap.size 170 #[a, b, c]) ∧ Below w.heap.size w w' := by
  go_enter Tryz.func48, Tryz.ntmps48
  go_wp2_with fail
  go_ret
  exact ⟨rfl, ⟨_, _, _, Blk.new _ _ rfl⟩, (by repeat' (first | (with_reducible exact Below.refl _ _) | (with_reducible refine Below.setCell ?_ ?_ _) | (with_reducible refine bdrewN ?_ _) | (with_reducible refine bdrew ?_) | (with_reducible refine Below.alloc ?_ ?_ _) | exact Nat.le_refl _ | (simp; done)))⟩
end Go.Proofs.YtconkcjcjdmidaaGreatDoor
