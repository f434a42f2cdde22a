/- The thin package's decimals: their words. (YtfalicipocbcoaaGreatDoor) -/
import Derived.Test.YtfalicipocbcoaaGreatDoorW14
set_option linter.unusedVariables false
set_option linter.unusedSimpArgs false
namespace Go.Proofs.YtfalicipocbcoaaGreatDoor
open Go.RowKit Go.ChangeShapes Go.WideShapes Go.ChangeAt
attribute [local go_sem ↓] Go.wp_at_zero Go.wp_at_succ
def decV (width d32 d64 lo hi a0 a1 a2 a3 : Int) : Value := .agg #[.int .i64 width, .int .i32 d32, .int .i64 d64, .int .u64 lo, .int .i64 hi, .int .u64 a0, .int .u64 a1, .int .u64 a2, .int .u64 a3]
def PDec (w : World) (v : Value) (e : Ending) (w' : World) : Prop := e = .returned (.tuple #[v, .bool true]) ∧ Below w.heap.size w w'
theorem bdrewN {a b : World} {B : Nat} (h : Below B a b) (n : Nat) : Below B a (b.drewN n) := ⟨h.os, h.tape, h.output, h.size, h.block⟩
theorem array_any (w : World) (a b c d : Int) : Calls Tryz.prog 29 #[.agg #[.int .u64 a, .int .u64 b, .int .u64 c, .int .u64 d]] w fun e w' => e = .returned (.agg #[.int .u64 a, .int .u64 b, .int .u64 c, .int .u64 d]) ∧ Below w.heap.size w w' := by
  go_enter Tryz.func29, Tryz.ntmps29
  go_wp2
  go_returns
  exact ⟨rfl, (by repeat' (first | (with_reducible exact Below.refl _ _) | (with_reducible refine Below.setCell ?_ ?_ _) | (with_reducible refine bdrewN ?_ _) | (with_reducible refine bdrew ?_) | (with_reducible refine Below.alloc ?_ ?_ _) | exact Nat.le_refl _ | (simp; done)))⟩
def PWords (w : World) (l : List Int) (e : Ending) (w' : World) : Prop := ∃ x, e = .returned x ∧ Rd .u64 w' x l ∧ Below w.heap.size w w' ∧ New w.heap.size x
theorem pwords_new {w W : World} {G n : Nat} {t : TypeId} {l : List Int} (hb : Blk W G t (ivs .u64 l).toArray) (hn : l.length = n) (h4 : n ≤ 4) (hG : w.heap.size ≤ G) (h : Below w.heap.size w W) : PWords w l (.returned (.slice (some ⟨G, 0, none⟩) n n)) W := by
  have := blk_rd hb (by omega)
  rw [hn] at this
  exact ⟨_, rfl, this.1, h, fun b off n c e hp => by injection e with e1 _ _; injection e1 with e1; injection e1 with e1; omega⟩
set_option maxRecDepth 100000 in
set_option maxHeartbeats 4000000 in
theorem words_256 (w : World) (d32 d64 lo hi a0 a1 a2 a3 : Int) : Calls Tryz.prog 13 #[decV 256 d32 d64 lo hi a0 a1 a2 a3] w (PWords w [a0, a1, a2, a3]) := by
  unfold decV
  have hF := hide (fun (W : World) (h : Below w.heap.size w W) => pwords_new (w := w) (n := 4) (l := [a0, a1, a2, a3]) (Blk.new (w := W) (g := W.heap.size) 42 (ivs .u64 [a0, a1, a2, a3]).toArray rfl) rfl (by omega) h.size (h.alloc h.size _))
  go_enter Tryz.func13, Tryz.ntmps13
  go_wp2_with (go_at_call 29; (with_reducible refine (array_any _ _ _ _ _).mono ?_); rintro e w3 ⟨rfl, hb3⟩)
  have hB3 := hide (below_tr ((Below.refl w.heap.size w).alloc (Nat.le_refl _) _) hb3 (by simp))
  go_ret
  exact (unhide hF) _ (unhide hB3)
end Go.Proofs.YtfalicipocbcoaaGreatDoor
