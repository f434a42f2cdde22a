/- The numbers of a union: looked at. (YtconkcjcjdmidaaGreatDoor) -/
import Derived.Test.YtconkcjcjdmidaaGreatDoorTF
set_option linter.unusedVariables false
set_option linter.unusedSimpArgs false
namespace Go.Proofs.YtconkcjcjdmidaaGreatDoor
open Go.RowKit Go.ChangeShapes Go.WideShapes Go.ChangeAt Go
/-- a union's numbers as bytes. -/
def Cds (w : World) (b : Nat) (ids : List Int) : Prop := b < w.heap.size ∧ ∀ j, j < ids.length → w.cell? ⟨b, j, none⟩ = some (.int .i8 (ids.getD j 0))
theorem Cds.below {w W : World} {b : Nat} {ids : List Int} (h : Cds w b ids) (hb : Below w.heap.size w W) : Cds W b ids := ⟨Nat.lt_of_lt_of_le h.1 hb.size, fun j hj => (hb.cell h.1).trans (h.2 j hj)⟩
def IdL (ids : List Int) : Prop := ids.length ≤ 100 ∧ ∀ k, k < ids.length → 0 ≤ ids.getD k 0 ∧ ids.getD k 0 ≤ 126 ∧ ∀ j, j < k → ids.getD j 0 ≠ ids.getD k 0
/-- 128 cells, which say no of the numbers from i on. -/
def Sn (W : World) (g : Nat) (ids : List Int) (i : Nat) : Prop := ∃ cs : Array Value, Blk W g 213 cs ∧ cs.size = 128 ∧ ∀ k, i ≤ k → k < ids.length → cs[(ids.getD k 0).toNat]? = some (.bool false)
def VR (w : World) (ids : List Int) (v : Value) (wr : World) : Prop :=
  ∃ (i : Nat), v = .int .i64 (i : Int) ∧ i ≤ ids.length ∧ Sn wr w.heap.size ids i ∧ Below w.heap.size w wr
theorem zero213 : Tryz.zeroCells213 = Array.replicate 128 (.bool false) := by rfl
theorem sn_zero (w : World) (ids : List Int) (h : IdL ids) : Sn (w.alloc (.cells Tryz.zeroCells213 213)) w.heap.size ids 0 := by
  refine ⟨_, Blk.new _ _ rfl, by rw [zero213]; simp, fun k _ hk => ?_⟩
  obtain ⟨h1, h2, _⟩ := h.2 k hk
  rw [zero213, Array.getElem?_replicate, if_pos (by omega)]
theorem sn_cell {W : World} {g : Nat} {ids : List Int} {i : Nat} (hi : i < ids.length) (h : Sn W g ids i) : W.cell? ⟨g, (ids.getD i 0).toNat, none⟩ = some (.bool false) ∧ W.frozen? ⟨g, (ids.getD i 0).toNat, none⟩ = false := by
  obtain ⟨cs, h1, h2, h3⟩ := h
  exact ⟨(h1.cell _).trans (h3 i (Nat.le_refl _) hi), h1.frozen _⟩
theorem sn_set {W : World} {g : Nat} {ids : List Int} {i : Nat} (hI : IdL ids) (hi : i < ids.length) (h : Sn W g ids i) : Sn (W.setCell ⟨g, (ids.getD i 0).toNat, none⟩ (.bool true)) g ids (i + 1) := by
  obtain ⟨cs, h1, h2, h3⟩ := h
  refine ⟨_, h1.set _ _, by simpa using h2, fun k hk hk2 => ?_⟩
  have h4 := (hI.2 k hk2).2.2 i (by omega)
  have h5 := (hI.2 k hk2).1
  have h6 := (hI.2 i hi).1
  rw [Array.getElem?_setIfInBounds_ne (by omega)]
  exact h3 k (by omega) hk2
set_option maxRecDepth 100000 in
set_option maxHeartbeats 4000000 in
theorem validate_any (w : World) (u m : Value) (A : Option Addr) (b n c c2 : Nat) (ids : List Int) (hn : n = ids.length) (hi : IdL ids) (hc : Cds w b ids) :
    Calls Tryz.prog 55 #[u, .slice A n c, .slice (some ⟨b, 0, none⟩) ids.length c2, m] w fun e w' => e = .returned .nilIface ∧ Below w.heap.size w w' := by
  subst hn
  have h00 := hide (show VR w ids (.int .i64 0) (w.alloc (.cells Tryz.zeroCells213 213)) from ⟨0, rfl, Nat.zero_le _, sn_zero w ids hi, (by repeat' (first | (with_reducible exact Below.refl _ _) | (with_reducible refine Below.setCell ?_ ?_ _) | (with_reducible refine bdrewN ?_ _) | (with_reducible refine bdrew ?_) | (with_reducible refine Below.alloc ?_ ?_ _) | exact Nat.le_refl _ | (simp; done)))⟩)
  replace hi := hide hi
  replace hc := hide hc
  go_enter Tryz.func55, Tryz.ntmps55
  go_wp2_with fail
  go_loopw [20] (VR w ids) (fun v _ => ids.length - (intOf v).toNat)
  case atStart => exact unhide h00
  case round =>
    obtain ⟨i, rfl, hil, hS, hB⟩ := hrel
    by_cases hlt : i < ids.length
    · obtain ⟨x0, x1, _⟩ := (unhide hi).2 i hlt
      have hlt' : (i : Int) < (ids.length : Int) := by omega
      have hcc := ((unhide hc).below hB).2 i hlt
      obtain ⟨s0, s1⟩ := sn_cell hlt hS
      have hw1 : IntKind.i64.wrap ((i : Int) + 1) = (i : Int) + 1 := (IntWalk.i64_left _).trans (IntWalk.wrap64_in _ (by have := (unhide hi).1; omega))
      have hnx := hide (show VR w ids (.int .i64 ((i : Int) + 1)) (wr.setCell ⟨w.heap.size, (ids.getD i 0).toNat, none⟩ (.bool true)) from ⟨i + 1, by simp, by omega, sn_set (unhide hi) hlt hS, hB.setCell (by simp) _⟩)
      generalize ids.getD i 0 = x at *
      have y0 : ¬ x < 0 := by omega
      have y1 : ¬ 127 < x := by omega
      clear hS hB hc hi
      go_wp2_with fail
      exact ⟨unhide hnx, by show ids.length - (intOf (Value.int IntKind.i64 ((i : Int) + 1))).toNat < ids.length - (intOf (Value.int IntKind.i64 (i : Int))).toNat; simp only [intOf]; omega⟩
    · have hlt' : ¬ (i : Int) < (ids.length : Int) := by omega
      replace hB := hide hB
      clear hS hc hi
      go_wp2_with fail
      go_ret
      exact ⟨rfl, unhide hB⟩
end Go.Proofs.YtconkcjcjdmidaaGreatDoor
