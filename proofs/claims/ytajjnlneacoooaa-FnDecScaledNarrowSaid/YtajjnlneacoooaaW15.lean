/- The thin package's decimals: their words. (Ytajjnlneacoooaa) -/
import Derived.Test.YtajjnlneacoooaaW14
set_option linter.unusedVariables false
set_option linter.unusedSimpArgs false
namespace Go.Proofs.Ytajjnlneacoooaa
open Go.RowKit Go.ChangeShapes Go.WideShapes Go.ChangeAt
attribute [local go_sem ↓] Go.wp_at_zero Go.wp_at_succ
def decV (width d32 d64 lo hi a0 a1 a2 a3 : Int) : Value := .agg #[.int .i64 width, .int .i32 d32, .int .i64 d64, .int .u64 lo, .int .i64 hi, .int .u64 a0, .int .u64 a1, .int .u64 a2, .int .u64 a3]
def PDec (w : World) (v : Value) (e : Ending) (w' : World) : Prop := e = .returned (.tuple #[v, .bool true]) ∧ Below w.heap.size w w'
theorem bdrewN {a b : World} {B : Nat} (h : Below B a b) (n : Nat) : Below B a (b.drewN n) := ⟨h.os, h.tape, h.output, h.size, h.block⟩
theorem low_any (w : World) (lo hi : Int) : Calls Try.prog 59 #[.agg #[.int .u64 lo, .int .i64 hi]] w fun e w' => e = .returned (.int .u64 lo) ∧ Below w.heap.size w w' := by
  go_enter Try.func59, Try.ntmps59
  go_wp2
  go_returns
  exact ⟨rfl, (by repeat' (first | (with_reducible exact Below.refl _ _) | (with_reducible refine Below.setCell ?_ ?_ _) | (with_reducible refine bdrewN ?_ _) | (with_reducible refine bdrew ?_) | (with_reducible refine Below.alloc ?_ ?_ _) | exact Nat.le_refl _ | (simp; done)))⟩
theorem high_any (w : World) (lo hi : Int) : Calls Try.prog 60 #[.agg #[.int .u64 lo, .int .i64 hi]] w fun e w' => e = .returned (.int .i64 hi) ∧ Below w.heap.size w w' := by
  go_enter Try.func60, Try.ntmps60
  go_wp2
  go_returns
  exact ⟨rfl, (by repeat' (first | (with_reducible exact Below.refl _ _) | (with_reducible refine Below.setCell ?_ ?_ _) | (with_reducible refine bdrewN ?_ _) | (with_reducible refine bdrew ?_) | (with_reducible refine Below.alloc ?_ ?_ _) | exact Nat.le_refl _ | (simp; done)))⟩
theorem array_any (w : World) (a b c d : Int) : Calls Try.prog 61 #[.agg #[.int .u64 a, .int .u64 b, .int .u64 c, .int .u64 d]] w fun e w' => e = .returned (.agg #[.int .u64 a, .int .u64 b, .int .u64 c, .int .u64 d]) ∧ Below w.heap.size w w' := by
  go_enter Try.func61, Try.ntmps61
  go_wp2
  go_returns
  exact ⟨rfl, (by repeat' (first | (with_reducible exact Below.refl _ _) | (with_reducible refine Below.setCell ?_ ?_ _) | (with_reducible refine bdrewN ?_ _) | (with_reducible refine bdrew ?_) | (with_reducible refine Below.alloc ?_ ?_ _) | exact Nat.le_refl _ | (simp; done)))⟩
def PWords (w : World) (l : List Int) (e : Ending) (w' : World) : Prop := ∃ x, e = .returned x ∧ Rd .u64 w' x l ∧ Below w.heap.size w w' ∧ New w.heap.size x
theorem pwords_new {w W : World} {G n : Nat} {t : TypeId} {l : List Int} (hb : Blk W G t (ivs .u64 l).toArray) (hn : l.length = n) (h4 : n ≤ 4) (hG : w.heap.size ≤ G) (h : Below w.heap.size w W) : PWords w l (.returned (.slice (some ⟨G, 0, none⟩) n n)) W := by
  have := blk_rd hb (by omega)
  rw [hn] at this
  exact ⟨_, rfl, this.1, h, fun b off n c e hp => by injection e with e1 _ _; injection e1 with e1; injection e1 with e1; omega⟩
set_option maxRecDepth 100000 in
set_option maxHeartbeats 4000000 in
theorem words_32 (w : World) (d32 d64 lo hi a0 a1 a2 a3 : Int) : Calls Try.prog 33 #[decV 32 d32 d64 lo hi a0 a1 a2 a3] w (PWords w [IntKind.u64.wrap (wrap64 d32)]) := by
  unfold decV
  have hF := hide (pwords_new (w := w) (n := 1) (l := [IntKind.u64.wrap (wrap64 d32)]) (Blk.new (w := w.alloc (.cells #[.int .i64 32, .int .i32 d32, .int .i64 d64, .int .u64 lo, .int .i64 hi, .int .u64 a0, .int .u64 a1, .int .u64 a2, .int .u64 a3] 62)) (g := w.heap.size + 1) 27 (ivs .u64 [IntKind.u64.wrap (wrap64 d32)]).toArray (by simp)) rfl (by omega) (by omega) (((Below.refl _ _).alloc (Nat.le_refl _) _).alloc (by simp) _))
  go_enter Try.func33, Try.ntmps33
  go_wp2
  go_ret
  exact unhide hF
set_option maxRecDepth 100000 in
set_option maxHeartbeats 4000000 in
theorem words_64 (w : World) (d32 d64 lo hi a0 a1 a2 a3 : Int) : Calls Try.prog 33 #[decV 64 d32 d64 lo hi a0 a1 a2 a3] w (PWords w [IntKind.u64.wrap d64]) := by
  unfold decV
  have hF := hide (pwords_new (w := w) (n := 1) (l := [IntKind.u64.wrap d64]) (Blk.new (w := w.alloc (.cells #[.int .i64 64, .int .i32 d32, .int .i64 d64, .int .u64 lo, .int .i64 hi, .int .u64 a0, .int .u64 a1, .int .u64 a2, .int .u64 a3] 62)) (g := w.heap.size + 1) 27 (ivs .u64 [IntKind.u64.wrap d64]).toArray (by simp)) rfl (by omega) (by omega) (((Below.refl _ _).alloc (Nat.le_refl _) _).alloc (by simp) _))
  go_enter Try.func33, Try.ntmps33
  go_wp2
  go_ret
  exact unhide hF
set_option maxRecDepth 100000 in
set_option maxHeartbeats 4000000 in
theorem words_128 (w : World) (d32 d64 lo hi a0 a1 a2 a3 : Int) : Calls Try.prog 33 #[decV 128 d32 d64 lo hi a0 a1 a2 a3] w (PWords w [lo, IntKind.u64.wrap hi]) := by
  unfold decV
  have hF := hide (fun (W : World) (h : Below w.heap.size w W) => pwords_new (w := w) (n := 2) (l := [lo, IntKind.u64.wrap hi]) (Blk.new (w := W) (g := W.heap.size) 27 (ivs .u64 [lo, IntKind.u64.wrap hi]).toArray rfl) rfl (by omega) h.size (h.alloc h.size _))
  go_enter Try.func33, Try.ntmps33
  go_wp2_with fail
  have k0 := Blk.new (w := w) (g := w.heap.size) 62 #[.int .i64 128, .int .i32 d32, .int .i64 d64, .int .u64 lo, .int .i64 hi, .int .u64 a0, .int .u64 a1, .int .u64 a2, .int .u64 a3] rfl
  have hb0 : Below w.heap.size w (w.alloc (.cells #[.int .i64 128, .int .i32 d32, .int .i64 d64, .int .u64 lo, .int .i64 hi, .int .u64 a0, .int .u64 a1, .int .u64 a2, .int .u64 a3] 62)) := (Below.refl _ _).alloc (Nat.le_refl _) _
  generalize (w.alloc (.cells #[.int .i64 128, .int .i32 d32, .int .i64 d64, .int .u64 lo, .int .i64 hi, .int .u64 a0, .int .u64 a1, .int .u64 a2, .int .u64 a3] 62)) = w0 at k0 hb0 ⊢
  have hL := hide (fun (W : World) (h : Below w0.heap.size w0 W) => (show W.cell? ⟨w.heap.size, 3, none⟩ = some (.int .u64 lo) ∧ W.cell? ⟨w.heap.size, 4, none⟩ = some (.int .i64 hi) ∧ Below w0.heap.size w0 W from
    ⟨by have := (k0.below h).cell 3; simpa using this, by have := (k0.below h).cell 4; simpa using this, h⟩))
  have hB0 : Below w0.heap.size w0 w0 := Below.refl _ _
  obtain ⟨e3, e4, _⟩ := (unhide hL) w0 hB0
  have hF2 := hide (fun (W : World) (h : Below w0.heap.size w0 W) => (unhide hF) W (below_tr hb0 h hb0.size))
  clear k0 hb0 hF
  go_region_with
    (first
      | (go_at_call 59; (with_reducible refine (low_any _ _ _).mono ?_); rintro e w3 ⟨rfl, hb3⟩; have r3 := hb3.cell (p := ⟨w.heap.size, 3, none⟩) (by have := World.block_lt_of_cell? _ _ e3; first | exact this | (simp; omega)); have r4 := hb3.cell (p := ⟨w.heap.size, 4, none⟩) (by have := World.block_lt_of_cell? _ _ e3; first | exact this | (simp; omega)); simp [e3, e4] at r3 r4)
      | (go_at_call 60; (with_reducible refine (high_any _ _ _).mono ?_); rintro e w4 ⟨rfl, hb4⟩))
  all_goals
    have hB3 : Below w0.heap.size w0 w3 := below_tr (bdrew hB0) (by exact hb3) hB0.size
    have hB4 := hide (below_tr hB3 hb4 hB3.size)
    go_wp2
    go_ret
    exact (unhide hF2) _ (unhide hB4)
set_option maxRecDepth 100000 in
set_option maxHeartbeats 4000000 in
theorem words_256 (w : World) (d32 d64 lo hi a0 a1 a2 a3 : Int) : Calls Try.prog 33 #[decV 256 d32 d64 lo hi a0 a1 a2 a3] w (PWords w [a0, a1, a2, a3]) := by
  unfold decV
  have hF := hide (fun (W : World) (h : Below w.heap.size w W) => pwords_new (w := w) (n := 4) (l := [a0, a1, a2, a3]) (Blk.new (w := W) (g := W.heap.size) 58 (ivs .u64 [a0, a1, a2, a3]).toArray rfl) rfl (by omega) h.size (h.alloc h.size _))
  go_enter Try.func33, Try.ntmps33
  go_wp2_with (go_at_call 61; (with_reducible refine (array_any _ _ _ _ _).mono ?_); rintro e w3 ⟨rfl, hb3⟩)
  have hB3 := hide (below_tr ((Below.refl w.heap.size w).alloc (Nat.le_refl _) _) hb3 (by simp))
  go_ret
  exact (unhide hF) _ (unhide hB3)
end Go.Proofs.Ytajjnlneacoooaa
