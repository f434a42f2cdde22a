/- The thin package's decimals: made of words, and words again; the other sign. (YtfalicipocbcoaaGreatDoor) -/
import Derived.Test.YtfalicipocbcoaaGreatDoorW15
set_option linter.unusedVariables false
set_option linter.unusedSimpArgs false
namespace Go.Proofs.YtfalicipocbcoaaGreatDoor
open Go.RowKit Go.ChangeShapes Go.WideShapes Go.ChangeAt
attribute [local go_sem ↓] Go.wp_at_zero Go.wp_at_succ
theorem new256_any (w : World) (a b c d : Int) : Calls Tryz.prog 23 #[.int .u64 a, .int .u64 b, .int .u64 c, .int .u64 d] w fun e w' => e = .returned (.agg #[.int .u64 d, .int .u64 c, .int .u64 b, .int .u64 a]) ∧ Below w.heap.size w w' := by
  go_enter Tryz.func23, Tryz.ntmps23
  go_wp2
  go_returns
  exact ⟨rfl, by first | exact Below.refl _ _ | exact (Below.refl _ _).alloc (Nat.le_refl _) _⟩
/-- the box of a decimal at place g. -/
def H9 (w : World) (g : Nat) (W : World) : Prop := Below w.heap.size w W ∧ w.heap.size ≤ g ∧ ∃ cs : Array Value, cs.size = 9 ∧ Blk W g 46 cs
theorem H9.drew {w W : World} {g : Nat} (h : H9 w g W) : H9 w g W.drew := ⟨bdrew h.1, h.2⟩
theorem H9.below {w W W1 : World} {g : Nat} (h : H9 w g W) (hb : Below W.heap.size W W1) : H9 w g W1 := by
  obtain ⟨h1, h2, cs, h3, h4⟩ := h
  exact ⟨below_tr h1 hb h1.size, h2, cs, h3, h4.below hb⟩
theorem H9.set {w W : World} {g : Nat} (h : H9 w g W) (i : Nat) (x : Value) : H9 w g (W.setCell ⟨g, i, none⟩ x) := by
  obtain ⟨h1, h2, cs, h3, h4⟩ := h
  exact ⟨h1.setCell h2 _, h2, _, by simpa using h3, h4.set i x⟩
theorem H9.facts {w W : World} {g : Nat} (h : H9 w g W) : ∃ v0 v1 v2 v3 v4 v5 v6 v7 v8, W.cell? ⟨g, 0, none⟩ = some v0 ∧ W.cell? ⟨g, 1, none⟩ = some v1 ∧ W.cell? ⟨g, 2, none⟩ = some v2 ∧ W.cell? ⟨g, 3, none⟩ = some v3 ∧ W.cell? ⟨g, 4, none⟩ = some v4 ∧ W.cell? ⟨g, 5, none⟩ = some v5 ∧ W.cell? ⟨g, 6, none⟩ = some v6 ∧ W.cell? ⟨g, 7, none⟩ = some v7 ∧ W.cell? ⟨g, 8, none⟩ = some v8 ∧ W.frozen? ⟨g, 0, none⟩ = false ∧ W.frozen? ⟨g, 1, none⟩ = false ∧ W.frozen? ⟨g, 2, none⟩ = false ∧ W.frozen? ⟨g, 3, none⟩ = false ∧ W.frozen? ⟨g, 4, none⟩ = false ∧ W.frozen? ⟨g, 5, none⟩ = false ∧ W.frozen? ⟨g, 6, none⟩ = false ∧ W.frozen? ⟨g, 7, none⟩ = false ∧ W.frozen? ⟨g, 8, none⟩ = false := by
  obtain ⟨h1, h2, cs, h3, h4⟩ := h
  have hc : ∀ i, i < 9 → ∃ v, W.cell? ⟨g, i, none⟩ = some v := fun i hi => ⟨cs[i], by rw [h4.cell]; exact Array.getElem?_eq_getElem (by omega)⟩
  obtain ⟨v0, c0⟩ := hc 0 (by omega)
  obtain ⟨v1, c1⟩ := hc 1 (by omega)
  obtain ⟨v2, c2⟩ := hc 2 (by omega)
  obtain ⟨v3, c3⟩ := hc 3 (by omega)
  obtain ⟨v4, c4⟩ := hc 4 (by omega)
  obtain ⟨v5, c5⟩ := hc 5 (by omega)
  obtain ⟨v6, c6⟩ := hc 6 (by omega)
  obtain ⟨v7, c7⟩ := hc 7 (by omega)
  obtain ⟨v8, c8⟩ := hc 8 (by omega)
  exact ⟨v0, v1, v2, v3, v4, v5, v6, v7, v8, c0, c1, c2, c3, c4, c5, c6, c7, c8, h4.frozen 0, h4.frozen 1, h4.frozen 2, h4.frozen 3, h4.frozen 4, h4.frozen 5, h4.frozen 6, h4.frozen 7, h4.frozen 8⟩
theorem h9_new (w : World) (cs : Array Value) (h : cs.size = 9) : H9 w w.heap.size (w.alloc (.cells cs 46)) := ⟨(Below.refl _ _).alloc (Nat.le_refl _) _, Nat.le_refl _, cs, h, Blk.new _ _ rfl⟩
set_option maxRecDepth 100000 in
set_option maxHeartbeats 4000000 in
theorem decOf_256 (w : World) (b off c : Nat) (x y u v : Int) (hc0 : w.cell? ⟨b, off, none⟩ = some (.int .u64 x)) (hc1 : w.cell? ⟨b, off + 1, none⟩ = some (.int .u64 y)) (hc2 : w.cell? ⟨b, off + 2, none⟩ = some (.int .u64 u)) (hc3 : w.cell? ⟨b, off + 3, none⟩ = some (.int .u64 v)) :
    Calls Tryz.prog 11 #[.int .i64 256, .slice (some ⟨b, off, none⟩) 4 c] w (PDec w (decV 256 0 0 0 0 x y u v)) := by
  have hlt := World.block_lt_of_cell? w _ hc0
  have hfin := hide (fun (W : World) (h : Below w.heap.size w W) => (show PDec w (decV 256 0 0 0 0 x y u v) (.returned (.tuple #[.agg #[.int .i64 256, .int .i32 0, .int .i64 0, .int .u64 0, .int .i64 0, .int .u64 x, .int .u64 y, .int .u64 u, .int .u64 v], .bool true])) W from ⟨rfl, h⟩))
  go_enter Tryz.func11, Tryz.ntmps11
  go_wp2_with fail
  go_quiet (fail)
  go_upto_region 8 with (fail)
  have hh0 := H9.below (h9_new w #[.int .i64 0, .int .i32 0, .int .i64 0, .int .u64 0, .int .i64 0, .int .u64 0, .int .u64 0, .int .u64 0, .int .u64 0] rfl) (bdrewN (Below.refl _ _) nq)
  generalize ((w.alloc (.cells #[.int .i64 0, .int .i32 0, .int .i64 0, .int .u64 0, .int .i64 0, .int .u64 0, .int .u64 0, .int .u64 0, .int .u64 0] 46)).drewN nq) = w0 at hh0 ⊢
  have e0 : w0.cell? ⟨b, off, none⟩ = some (.int .u64 x) := by rw [hh0.1.cell (p := ⟨b, off, none⟩) hlt]; exact hc0
  have e1 : w0.cell? ⟨b, off + 1, none⟩ = some (.int .u64 y) := by rw [hh0.1.cell (p := ⟨b, off + 1, none⟩) hlt]; exact hc1
  have e2 : w0.cell? ⟨b, off + 2, none⟩ = some (.int .u64 u) := by rw [hh0.1.cell (p := ⟨b, off + 2, none⟩) hlt]; exact hc2
  have e3 : w0.cell? ⟨b, off + 3, none⟩ = some (.int .u64 v) := by rw [hh0.1.cell (p := ⟨b, off + 3, none⟩) hlt]; exact hc3
  clear hc0 hc1 hc2 hc3
  go_region_with
    (first
      | (go_at_call 23; (with_reducible refine (new256_any _ _ _ _ _).mono ?_); rintro e w3 ⟨rfl, hb3⟩; have hh := H9.below (H9.drew hh0) hb3; have HH := hide hh.1; obtain ⟨v0, v1, v2, v3, v4, v5, v6, v7, v8, c0, c1, c2, c3, c4, c5, c6, c7, c8, f0, f1, f2, f3, f4, f5, f6, f7, f8⟩ := H9.facts hh; clear hh hb3))
  all_goals
    go_wp2
    refine bodyPost_ret (v := .tuple #[.agg #[.int .i64 256, .int .i32 0, .int .i64 0, .int .u64 0, .int .i64 0, .int .u64 x, .int .u64 y, .int .u64 u, .int .u64 v], .bool true]) (by simp [results, Tryz.results11, go_sem, c0, c1, c2, c3, c4, c5, c6, c7, c8]) rfl ?_
    exact (unhide hfin) _ (by repeat' (first | (with_reducible exact unhide HH) | (with_reducible refine Below.setCell ?_ ?_ _) | (with_reducible refine bdrew ?_) | exact Nat.le_refl _ | (simp; done)))
end Go.Proofs.YtfalicipocbcoaaGreatDoor
