/- The thin package's decimals: the other sign of one of 128 and of 256 bits. (YtfalicipocbcoaaGreatDoor) -/
import Derived.Test.YtfalicipocbcoaaGreatDoorW13p
import Derived.Test.YtfalicipocbcoaaGreatDoorW10
import Derived.Lib.Zigzag
set_option linter.unusedVariables false
set_option linter.unusedSimpArgs false
namespace Go.Proofs.YtfalicipocbcoaaGreatDoor
open Go.RowKit Go.ChangeShapes Go.WideShapes Go.ChangeAt
attribute [local go_sem ↓] Go.wp_at_zero Go.wp_at_succ
theorem not_u64 (x : Int) (h0 : 0 ≤ x) (h1 : x < 18446744073709551616) : bits .xor .u64 IntKind.u64.max x = 18446744073709551615 - x := by
  obtain ⟨n, rfl⟩ := Int.eq_ofNat_of_zero_le h0
  have e2 : IntKind.u64.max = ((2 ^ 64 - 1 : Nat) : Int) := by decide
  rw [e2, bits_xor_u64_nat _ _ (by decide) (by omega), Lib.xor_ones64 _ (by omega)]
  omega
theorem not_i64 (x : Int) (h0 : -9223372036854775808 ≤ x) (h1 : x < 9223372036854775808) : bits .xor .i64 (-1) x = -x - 1 := by
  show IntKind.i64.wrap ((BitVec.ofInt 64 (-1) ^^^ BitVec.ofInt 64 x).toNat : Int) = _
  have h3 : (BitVec.ofInt 64 (-1)).toNat = 2 ^ 64 - 1 := by decide
  have h2 : (BitVec.ofInt 64 x).toNat = (x % 18446744073709551616).toNat := by rw [BitVec.toNat_ofInt]; rfl
  rw [BitVec.toNat_xor, h3, h2, Lib.xor_ones64 _ (by omega), IntKind.wrap_i64]
  omega
/-- the words of the other sign, of 128 bits. -/
theorem negl_two (lo hw : Int) (h0 : 0 ≤ lo) (h1 : lo < 18446744073709551616) (h2 : 0 ≤ hw) (h3 : hw < 18446744073709551616) :
    negl [lo, hw] 1 = [IntKind.u64.wrap (18446744073709551615 - lo + 1), IntKind.u64.wrap (if IntKind.u64.wrap (18446744073709551615 - lo + 1) = 0 then wrap64 (-wrap64 hw) else -wrap64 hw - 1)] := by
  simp only [negl, IntKind.wrap_u64]
  by_cases e : (18446744073709551615 - lo + 1) % 18446744073709551616 = 0
  · rw [if_pos e, if_pos e]
    congr 1
    congr 1
    unfold wrap64; omega
  · rw [if_neg e, if_neg e]
    congr 1
    congr 1
    unfold wrap64; omega
def P128 (w : World) (l : List Int) (e : Ending) (w' : World) : Prop := ∃ lo hi, e = .returned (.agg #[.int .u64 lo, .int .i64 hi]) ∧ l = [lo, IntKind.u64.wrap hi] ∧ Below w.heap.size w w'
def cr (l : List Int) : Nat → Int
  | 0 => 1
  | k + 1 => if (18446744073709551615 - l.getD k 0 + cr l k) % 18446744073709551616 = 0 then cr l k else 0
def ng (l : List Int) (k : Nat) : Int := (18446744073709551615 - l.getD k 0 + cr l k) % 18446744073709551616
def pn (l : List Int) (k : Nat) : List Int := (List.range 4).map fun j => if j < k then ng l j else l.getD j 0
theorem cr_01 (l : List Int) (k : Nat) : cr l k = 0 ∨ cr l k = 1 := by
  induction k with
  | zero => right; rfl
  | succ k ih => simp only [cr]; split; exact ih; left; rfl
theorem pn_get (l : List Int) (k j : Nat) (h : j < 4) : (pn l k).getD j 0 = if j < k then ng l j else l.getD j 0 := by
  simp [pn, List.getD_eq_getElem?_getD, h]
theorem pn_set (l : List Int) (k : Nat) (h : k < 4) : (pn l k).set k (ng l k) = pn l (k + 1) := by
  apply getD_ext (by simp [pn])
  intro j hj
  have hj : j < 4 := by simpa [pn] using hj
  rw [set_getD _ _ _ _ (by simp [pn]; exact h), pn_get _ _ _ hj, pn_get _ _ _ hj]
  by_cases e : j = k
  · subst e; simp
  · rw [if_neg e]
    by_cases h2 : j < k
    · rw [if_pos h2, if_pos (by omega)]
    · rw [if_neg h2, if_neg (by omega)]
theorem pn_start (a b c d : Int) : pn [a, b, c, d] 0 = [a, b, c, d] := rfl
theorem pn_end (a b c d : Int) : pn [a, b, c, d] 4 = negl [a, b, c, d] 1 := by
  show [ng [a, b, c, d] 0, ng [a, b, c, d] 1, ng [a, b, c, d] 2, ng [a, b, c, d] 3] = _
  simp [negl, ng, cr]
def NgRel (w : World) (l : List Int) (v3 v5 : Value) (wr : World) : Prop :=
  ∃ k : Nat, k ≤ 4 ∧ v5 = .int .i64 (k : Int) ∧ v3 = .int .u64 (cr l k) ∧ Blk wr w.heap.size 44 (ivs .u64 (pn l k)).toArray ∧ Blk wr (w.heap.size + 1) 44 #[.int .u64 0, .int .u64 0, .int .u64 0, .int .u64 0] ∧ Below w.heap.size w wr
def P256 (w : World) (l : List Int) (e : Ending) (w' : World) : Prop := ∃ a b c d, e = .returned (.agg #[.int .u64 a, .int .u64 b, .int .u64 c, .int .u64 d]) ∧ l = [a, b, c, d] ∧ Below w.heap.size w w'
set_option maxRecDepth 100000 in
set_option maxHeartbeats 4000000 in
theorem neg256_any (w : World) (a b c d : Int) (hs : Sm64 [a, b, c, d]) :
    Calls Tryz.prog 37 #[.agg #[.int .u64 a, .int .u64 b, .int .u64 c, .int .u64 d]] w (P256 w (negl [a, b, c, d] 1)) := by
  have hs1 : IntKind.u64.signed = false := rfl
  have hfin := hide (fun (W : World) (h : Below w.heap.size w W) => (show P256 w (negl [a, b, c, d] 1) (.returned (.agg #[.int .u64 (ng [a, b, c, d] 0), .int .u64 (ng [a, b, c, d] 1), .int .u64 (ng [a, b, c, d] 2), .int .u64 (ng [a, b, c, d] 3)])) W from ⟨_, _, _, _, rfl, (pn_end a b c d).symm, h⟩))
  have h00 := hide (show NgRel w [a, b, c, d] (.int .u64 1) (.int .i64 0) ((w.alloc (.cells #[.int .u64 a, .int .u64 b, .int .u64 c, .int .u64 d] 44)).alloc (.cells #[.int .u64 0, .int .u64 0, .int .u64 0, .int .u64 0] 44)) from
    ⟨0, by omega, rfl, rfl, (Blk.new _ _ rfl).alloc _, Blk.new _ _ (by simp), ((Below.refl _ _).alloc (Nat.le_refl _) _).alloc (by simp) _⟩)
  go_enter Tryz.func37, Tryz.ntmps37
  go_wp2
  go_loopw [3, 5] (NgRel w [a, b, c, d]) (fun _ v _ => 4 - (intOf v).toNat)
  case atStart => exact unhide h00
  case round =>
    obtain ⟨k, hk, rfl, rfl, b1, b2, hb⟩ := hrel
    by_cases hlt : k < 4
    · have ck := b1.cell k
      have fk := b1.frozen k
      rw [ivs_get _ _ _ (by simp [pn]; exact hlt), pn_get _ _ _ hlt, if_neg (by omega)] at ck
      obtain ⟨g1, g2⟩ := sm64_get hs k
      have hx := not_u64 _ g1 g2
      have hc := cr_01 [a, b, c, d] k
      have hwr : IntKind.u64.wrap (18446744073709551615 - ([a, b, c, d] : List Int).getD k 0 + cr [a, b, c, d] k) = ng [a, b, c, d] k := by rw [IntKind.wrap_u64]; rfl
      have hnext := hide (fun (W : World) (hW : W = wr.setCell ⟨w.heap.size, k, none⟩ (.int .u64 (ng [a, b, c, d] k))) (v : Int) (hv : v = cr [a, b, c, d] (k + 1)) => (show NgRel w [a, b, c, d] (.int .u64 v) (.int .i64 ((k : Int) + 1)) W from by
        subst hW hv
        refine ⟨k + 1, by omega, by simp, rfl, ?_, b2.other (by simp) _, hb.setCell (by simp) _⟩
        have := b1.set k (.int .u64 (ng [a, b, c, d] k))
        rw [List.setIfInBounds_toArray, show (ivs .u64 (pn [a, b, c, d] k)).set k (.int .u64 (ng [a, b, c, d] k)) = ivs .u64 ((pn [a, b, c, d] k).set k (ng [a, b, c, d] k)) by simp [ivs, List.map_set], pn_set _ _ hlt] at this
        exact this))
      have hcz := hide (show ng [a, b, c, d] k = 0 → cr [a, b, c, d] k = cr [a, b, c, d] (k + 1) from fun h => by unfold ng at h; simp only [cr]; rw [if_pos h])
      have hcn := hide (show ng [a, b, c, d] k ≠ 0 → (0 : Int) = cr [a, b, c, d] (k + 1) from fun h => by unfold ng at h; simp only [cr]; rw [if_neg h])
      have hk0 : (0 : Int) ≤ (k : Int) := by omega
      have hk4 : (k : Int) < 4 := by omega
      clear b1 b2 hb hc g1 g2 h00
      generalize ([a, b, c, d] : List Int).getD k 0 = x at ck hx hwr
      generalize cr [a, b, c, d] k = y at hwr hcz ⊢
      generalize ng [a, b, c, d] k = z at hwr hnext hcz hcn
      by_cases hz : z = 0
      · have hz1 : (z != 0) = false := by simpa using hz
        have HF := hide ((unhide hnext) _ rfl _ ((unhide hcz) hz))
        clear hz hnext hcz hcn
        go_wp2
        exact ⟨unhide HF, by simp [intOf]; omega⟩
      · have hz1 : (z != 0) = true := by simpa using hz
        have HF := hide ((unhide hnext) _ rfl _ ((unhide hcn) hz))
        clear hz hnext hcz hcn
        go_wp2
        exact ⟨unhide HF, by simp [intOf]; omega⟩
    · obtain rfl : k = 4 := by omega
      have q0 := b1.cell 0
      have q1 := b1.cell 1
      have q2 := b1.cell 2
      have q3 := b1.cell 3
      have p0 := b2.cell 0
      have p1 := b2.cell 1
      have p2 := b2.cell 2
      have p3 := b2.cell 3
      have f0 := b2.frozen 0
      have f1 := b2.frozen 1
      have f2 := b2.frozen 2
      have f3 := b2.frozen 3
      rw [ivs_get _ _ _ (by simp [pn]), pn_get _ _ _ (by omega), if_pos (by omega)] at q0 q1 q2 q3
      simp at p0 p1 p2 p3
      have hne : w.heap.size ≠ w.heap.size + 1 := by omega
      have HB := hide hb
      clear b1 b2 hb h00
      go_wp2
      refine bodyPost_ret (v := .agg #[.int .u64 (ng [a, b, c, d] 0), .int .u64 (ng [a, b, c, d] 1), .int .u64 (ng [a, b, c, d] 2), .int .u64 (ng [a, b, c, d] 3)]) (by simp [results, Tryz.results37, go_sem, p0, p1, p2, p3]) rfl ?_
      exact (unhide hfin) _ ((((HB.out.setCell (by simp) _).setCell (by simp) _).setCell (by simp) _).setCell (by simp) _)
end Go.Proofs.YtfalicipocbcoaaGreatDoor
