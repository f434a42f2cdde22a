/- For every width, every choice of the greatest or the least, every first decimal and every rest of them: DecMost gives the one that is due. All inputs. (Ytajjnlneacoooaa) -/
import Derived.Test.YtajjnlneacoooaaW16
import Derived.Test.YtajjnlneacoooaaW17
import Derived.Test.YtajjnlneacoooaaW13
import Derived.Deep.AppendLies
import Derived.Deep.RegionHeld3
import Derived.Test.YtajjnlneacoooaaWU
import Derived.Deep.Matrix
set_option linter.unusedVariables false
set_option linter.unusedSimpArgs false
namespace Go.Proofs.Ytajjnlneacoooaa
open Go.RowKit Go.ChangeShapes Go.WideShapes Go.ChangeAt
attribute [local go_sem ↓] Go.wp_at_zero Go.wp_at_succ
def lt128 (lo hi lo2 hi2 : Int) : Bool := decide (hi < hi2) || (decide (hi = hi2) && decide (lo < lo2))
def PBl (w : World) (b : Bool) (e : Ending) (w' : World) : Prop := e = .returned (.bool b) ∧ Below w.heap.size w w'
set_option maxRecDepth 100000 in
set_option maxHeartbeats 4000000 in
theorem less128_any (w : World) (lo hi lo2 hi2 : Int) : Calls Try.prog 63 #[.agg #[.int .u64 lo, .int .i64 hi], .agg #[.int .u64 lo2, .int .i64 hi2]] w (PBl w (lt128 lo hi lo2 hi2)) := by
  have hP := hide (fun (W : World) (b : Bool) (hb : b = lt128 lo hi lo2 hi2) (h : Below w.heap.size w W) => (show PBl w (lt128 lo hi lo2 hi2) (.returned (.bool b)) W from ⟨by rw [hb], h⟩))
  by_cases h1 : hi < hi2
  · go_enter Try.func63, Try.ntmps63
    go_wp2
    all_goals go_ret
    all_goals exact (unhide hP) _ _ (by unfold lt128; simp [h1]) (((Below.refl w.heap.size w).alloc (Nat.le_refl _) _).alloc (by simp) _)
  · by_cases h2 : hi = hi2
    · subst h2
      go_enter Try.func63, Try.ntmps63
      go_wp2
      all_goals go_ret
      all_goals exact (unhide hP) _ _ (by unfold lt128; simp) (((Below.refl w.heap.size w).alloc (Nat.le_refl _) _).alloc (by simp) _)
    · have h3 : (hi == hi2) = false := by simp [h2]
      go_enter Try.func63, Try.ntmps63
      go_wp2
      all_goals go_ret
      all_goals exact (unhide hP) _ _ (by unfold lt128; simp [h1, h2]) (((Below.refl w.heap.size w).alloc (Nat.le_refl _) _).alloc (by simp) _)
set_option maxRecDepth 100000 in
set_option maxHeartbeats 4000000 in
theorem greater128_any (w : World) (lo hi lo2 hi2 : Int) : Calls Try.prog 65 #[.agg #[.int .u64 lo, .int .i64 hi], .agg #[.int .u64 lo2, .int .i64 hi2]] w (PBl w (lt128 lo2 hi2 lo hi)) := by
  have hP := hide (fun (W : World) (h : Below w.heap.size w W) => (show PBl w (lt128 lo2 hi2 lo hi) (.returned (.bool (lt128 lo2 hi2 lo hi))) W from ⟨rfl, h⟩))
  have hL := hide (fun (W : World) => less128_any W lo2 hi2 lo hi)
  generalize lt128 lo2 hi2 lo hi = r at *
  go_enter Try.func65, Try.ntmps65
  go_wp2_with (go_at_call 63; (with_reducible refine ((unhide hL) _).mono ?_); rintro e w1 ⟨rfl, hb1⟩)
  go_ret
  exact (unhide hP) _ (below_tr (((Below.refl w.heap.size w).alloc (Nat.le_refl _) _).alloc (by simp) _) hb1 (by simp; omega))
def lt256 (a b c d a2 b2 c2 d2 : Int) : Bool :=
  if d ≠ d2 then decide (wrap64 d < wrap64 d2) else if c ≠ c2 then decide (c < c2) else if b ≠ b2 then decide (b < b2) else decide (a < a2)
set_option maxRecDepth 100000 in
set_option maxHeartbeats 4000000 in
theorem less256_any (w : World) (a b c d a2 b2 c2 d2 : Int) : Calls Try.prog 64 #[.agg #[.int .u64 a, .int .u64 b, .int .u64 c, .int .u64 d], .agg #[.int .u64 a2, .int .u64 b2, .int .u64 c2, .int .u64 d2]] w (PBl w (lt256 a b c d a2 b2 c2 d2)) := by
  have hP := hide (fun (W : World) (r : Bool) (hb : r = lt256 a b c d a2 b2 c2 d2) (h : Below w.heap.size w W) => (show PBl w (lt256 a b c d a2 b2 c2 d2) (.returned (.bool r)) W from ⟨by rw [hb], h⟩))
  have hd : ∀ x y : Int, x ≠ y → (x != y) = true := fun x y h => by simp [h]
  by_cases h1 : d = d2
  · subst h1
    by_cases h2 : c = c2
    · subst h2
      by_cases h3 : b = b2
      · subst h3
        go_enter Try.func64, Try.ntmps64
        go_wp2
        all_goals go_ret
        all_goals exact (unhide hP) _ _ (by unfold lt256; simp) (((Below.refl w.heap.size w).alloc (Nat.le_refl _) _).alloc (by simp) _)
      · have h3' := hd _ _ h3
        go_enter Try.func64, Try.ntmps64
        go_wp2
        all_goals go_ret
        all_goals exact (unhide hP) _ _ (by unfold lt256; simp [h3]) (((Below.refl w.heap.size w).alloc (Nat.le_refl _) _).alloc (by simp) _)
    · have h2' := hd _ _ h2
      go_enter Try.func64, Try.ntmps64
      go_wp2
      all_goals go_ret
      all_goals exact (unhide hP) _ _ (by unfold lt256; simp [h2]) (((Below.refl w.heap.size w).alloc (Nat.le_refl _) _).alloc (by simp) _)
  · have h1' := hd _ _ h1
    go_enter Try.func64, Try.ntmps64
    go_wp2
    all_goals go_ret
    all_goals exact (unhide hP) _ _ (by unfold lt256; simp [h1]) (((Below.refl w.heap.size w).alloc (Nat.le_refl _) _).alloc (by simp) _)
set_option maxRecDepth 100000 in
set_option maxHeartbeats 4000000 in
theorem greater256_any (w : World) (a b c d a2 b2 c2 d2 : Int) : Calls Try.prog 66 #[.agg #[.int .u64 a, .int .u64 b, .int .u64 c, .int .u64 d], .agg #[.int .u64 a2, .int .u64 b2, .int .u64 c2, .int .u64 d2]] w (PBl w (lt256 a2 b2 c2 d2 a b c d)) := by
  have hP := hide (fun (W : World) (h : Below w.heap.size w W) => (show PBl w (lt256 a2 b2 c2 d2 a b c d) (.returned (.bool (lt256 a2 b2 c2 d2 a b c d))) W from ⟨rfl, h⟩))
  have hL := hide (fun (W : World) => less256_any W a2 b2 c2 d2 a b c d)
  generalize lt256 a2 b2 c2 d2 a b c d = r at *
  go_enter Try.func66, Try.ntmps66
  go_wp2_with (go_at_call 64; (with_reducible refine ((unhide hL) _).mono ?_); rintro e w1 ⟨rfl, hb1⟩)
  go_ret
  exact (unhide hP) _ (below_tr (((Below.refl w.heap.size w).alloc (Nat.le_refl _) _).alloc (by simp) _) hb1 (by simp; omega))
theorem take_fold {α β : Type} (f : β → α → β) (p : β) (l : List α) (k : Nat) (d : α) (h : k < l.length) : (l.take (k + 1)).foldl f p = f ((l.take k).foldl f p) (l.getD k d) := by
  rw [List.take_succ_eq_append_getElem h, List.foldl_append, List.getD_eq_getElem?_getD, List.getElem?_eq_getElem h]; rfl
/-- a row of numbers of 128 bits. -/
def N2 (w : World) (v : Value) (ps : List (Int × Int)) : Prop :=
  ∃ A c, v = .slice A ps.length c ∧ ps.length ≤ c ∧ ps.length ≤ 1000 ∧ (0 < ps.length → ∃ g, A = some ⟨g, 0, none⟩ ∧ g < w.heap.size ∧ ∀ k, k < ps.length → w.cell? ⟨g, k * 2, none⟩ = some (.int .u64 (ps.getD k (0, 0)).1) ∧ w.cell? ⟨g, k * 2 + 1, none⟩ = some (.int .i64 (ps.getD k (0, 0)).2))
theorem N2.below {w w1 : World} {v : Value} {ps : List (Int × Int)} (h : N2 w v ps) (hb : Below w.heap.size w w1) : N2 w1 v ps := by
  obtain ⟨A, c, e, h1, h2, h3⟩ := h
  refine ⟨A, c, e, h1, h2, fun hp => ?_⟩
  obtain ⟨g, e2, hg, hc⟩ := h3 hp
  refine ⟨g, e2, Nat.lt_of_lt_of_le hg hb.size, fun k hk => ?_⟩
  have := hc k hk
  obtain ⟨x0, x1⟩ := this
  exact ⟨(hb.cell (p := ⟨g, k * 2, none⟩) hg).trans x0, (hb.cell (p := ⟨g, k * 2 + 1, none⟩) hg).trans x1⟩
def mst2 (low : Bool) (m x : Int × Int) : Int × Int := if (if low then lt128 x.1 x.2 m.1 m.2 else lt128 m.1 m.2 x.1 x.2) then x else m
def MRel2 (w : World) (low : Bool) (p : Int × Int) (ps : List (Int × Int)) (v : Value) (wr : World) : Prop :=
  ∃ k : Nat, k ≤ ps.length ∧ v = .int .i64 (k : Int) ∧ Blk wr (w.heap.size + 1 + 1) 57 #[.int .u64 ((ps.take k).foldl (mst2 low) p).1, .int .i64 ((ps.take k).foldl (mst2 low) p).2] ∧ Blk wr (w.heap.size + 1) 57 #[.int .u64 0, .int .i64 0] ∧ Below w.heap.size w wr
def PNum2 (w : World) (p : Int × Int) (e : Ending) (w' : World) : Prop := e = .returned (.agg #[.int .u64 p.1, .int .i64 p.2]) ∧ Below w.heap.size w w'
set_option maxRecDepth 100000 in
set_option maxHeartbeats 4000000 in
theorem max128_any (w : World) (a0 a1 : Int) (v : Value) (ps : List (Int × Int)) (hv : N2 w v ps) :
    Calls Try.prog 41 #[.agg #[.int .u64 a0, .int .i64 a1], v] w (PNum2 w (ps.foldl (mst2 false) (a0, a1))) := by
  obtain ⟨A, c, rfl, hc, hl, hA⟩ := hv
  have h00 := hide (show MRel2 w false (a0, a1) ps (.int .i64 0) (((w.alloc (.cells #[.int .u64 a0, .int .i64 a1] 57)).alloc (.cells #[.int .u64 0, .int .i64 0] 57)).alloc (.cells #[.int .u64 a0, .int .i64 a1] 57)) from
    ⟨0, by omega, rfl, Blk.new _ _ (by simp), (Blk.new _ _ (by simp)).alloc _, (((Below.refl w.heap.size w).alloc (Nat.le_refl _) _).alloc (by simp) _).alloc (by simp; omega) _⟩)
  have HA := hide hA
  clear hA
  go_enter Try.func41, Try.ntmps41
  go_wp2
  go_loopw [11] (MRel2 w false (a0, a1) ps) (fun v _ => ps.length - (intOf v).toNat)
  case atStart => exact unhide h00
  case round =>
    obtain ⟨k, hk, rfl, b5, b4, hb⟩ := hrel
    by_cases hlt : k < ps.length
    · obtain ⟨g, rfl, hg, hcell⟩ := (unhide HA) (by omega)
      obtain ⟨z0, z1⟩ := hcell k hlt
      have y0 := (hb.cell (p := ⟨g, k * 2, none⟩) hg).trans z0
      have y1 := (hb.cell (p := ⟨g, k * 2 + 1, none⟩) hg).trans z1
      have htf := hide (take_fold (mst2 false) (a0, a1) ps k (0, 0) hlt)
      have hps := hide hlt
      clear z0 z1 hcell
      generalize hxx : ps.getD k (0, 0) = x at *
      generalize hcc : (ps.take k).foldl (mst2 false) (a0, a1) = cu at *
      clear hxx hcc
      obtain ⟨x1, x2⟩ := x
      obtain ⟨c1, c2⟩ := cu
      dsimp only at y0 y1 b5
      have hb5 := b5.lt
      have hb4 := b4.lt
      obtain ⟨q0, q1, q2, q3, _⟩ := blk_two b5
      have B5 := hide b5
      have B4 := hide b4
      have HB := hide hb
      clear b5 b4 hb
      go_wp2_with fail
      refine (greater128_any _ _ _ _ _).mono ?_
      rintro e w1 ⟨rfl, hb1⟩
      have n1 := (Blk.new (w := wr) (g := wr.heap.size) 57 #[.int .u64 x1, .int .i64 x2] rfl).below hb1
      have n5 := ((unhide B5).alloc (.cells #[.int .u64 x1, .int .i64 x2] 57)).below hb1
      have n4 := ((unhide B4).alloc (.cells #[.int .u64 x1, .int .i64 x2] 57)).below hb1
      have hB1 := below_tr ((unhide HB).alloc (unhide HB).size (.cells #[.int .u64 x1, .int .i64 x2] 57)) hb1 (by have := (unhide HB).size; simp; omega)
      obtain ⟨r0, r1, r2, r3, _⟩ := blk_two n1
      obtain ⟨s0, s1, s2, s3, _⟩ := blk_two n5
      have N5 := hide n5
      have N4 := hide n4
      have HB1 := hide hB1
      clear n1 n5 n4 hB1 hb1
      cases hbt : lt128 c1 c2 x1 x2
      case false =>
        have hrel := hide (show MRel2 w false (a0, a1) ps (.int .i64 ((k : Int) + 1)) w1 from ⟨k + 1, by omega, by simp, by rw [unhide htf]; unfold mst2; simp only [hbt]; exact unhide N5, unhide N4, unhide HB1⟩)
        clear hbt htf
        go_wp2
        exact ⟨unhide hrel, by simp [intOf]; omega⟩
      case true =>
        have hrel := hide (show MRel2 w false (a0, a1) ps (.int .i64 ((k : Int) + 1)) ((w1.setCell ⟨w.heap.size + 1 + 1, 0, none⟩ (.int .u64 x1)).setCell ⟨w.heap.size + 1 + 1, 1, none⟩ (.int .i64 x2)) from ⟨k + 1, by omega, by simp, by rw [unhide htf]; unfold mst2; simp only [hbt]; exact (((unhide N5).set 0 _).set 1 _), (((unhide N4).other (by simp) _).other (by simp) _), (((unhide HB1).setCell (by simp; omega) _).setCell (by simp; omega) _)⟩)
        clear hbt htf
        go_wp2
        exact ⟨unhide hrel, by simp [intOf]; omega⟩
    · obtain rfl : k = ps.length := by omega
      rw [List.take_length] at b5
      obtain ⟨q0, q1, q2, q3, _⟩ := blk_two b5
      obtain ⟨r0, r1, r2, r3, _⟩ := blk_two b4
      have HB := hide hb
      clear b5 b4 hb
      generalize ps.foldl (mst2 false) (a0, a1) = cu at *
      obtain ⟨c1, c2⟩ := cu
      dsimp only at q0 q1
      go_wp2
      refine bodyPost_ret (v := .agg #[.int .u64 c1, .int .i64 c2]) (by simp [results, Try.results41, go_sem, q0, q1, r0, r1]) rfl ?_
      exact ⟨rfl, (((unhide HB).setCell (by simp) _).setCell (by simp) _)⟩
set_option maxRecDepth 100000 in
set_option maxHeartbeats 4000000 in
theorem min128_any (w : World) (a0 a1 : Int) (v : Value) (ps : List (Int × Int)) (hv : N2 w v ps) :
    Calls Try.prog 39 #[.agg #[.int .u64 a0, .int .i64 a1], v] w (PNum2 w (ps.foldl (mst2 true) (a0, a1))) := by
  obtain ⟨A, c, rfl, hc, hl, hA⟩ := hv
  have h00 := hide (show MRel2 w true (a0, a1) ps (.int .i64 0) (((w.alloc (.cells #[.int .u64 a0, .int .i64 a1] 57)).alloc (.cells #[.int .u64 0, .int .i64 0] 57)).alloc (.cells #[.int .u64 a0, .int .i64 a1] 57)) from
    ⟨0, by omega, rfl, Blk.new _ _ (by simp), (Blk.new _ _ (by simp)).alloc _, (((Below.refl w.heap.size w).alloc (Nat.le_refl _) _).alloc (by simp) _).alloc (by simp; omega) _⟩)
  have HA := hide hA
  clear hA
  go_enter Try.func39, Try.ntmps39
  go_wp2
  go_loopw [11] (MRel2 w true (a0, a1) ps) (fun v _ => ps.length - (intOf v).toNat)
  case atStart => exact unhide h00
  case round =>
    obtain ⟨k, hk, rfl, b5, b4, hb⟩ := hrel
    by_cases hlt : k < ps.length
    · obtain ⟨g, rfl, hg, hcell⟩ := (unhide HA) (by omega)
      obtain ⟨z0, z1⟩ := hcell k hlt
      have y0 := (hb.cell (p := ⟨g, k * 2, none⟩) hg).trans z0
      have y1 := (hb.cell (p := ⟨g, k * 2 + 1, none⟩) hg).trans z1
      have htf := hide (take_fold (mst2 true) (a0, a1) ps k (0, 0) hlt)
      have hps := hide hlt
      clear z0 z1 hcell
      generalize hxx : ps.getD k (0, 0) = x at *
      generalize hcc : (ps.take k).foldl (mst2 true) (a0, a1) = cu at *
      clear hxx hcc
      obtain ⟨x1, x2⟩ := x
      obtain ⟨c1, c2⟩ := cu
      dsimp only at y0 y1 b5
      have hb5 := b5.lt
      have hb4 := b4.lt
      obtain ⟨q0, q1, q2, q3, _⟩ := blk_two b5
      have B5 := hide b5
      have B4 := hide b4
      have HB := hide hb
      clear b5 b4 hb
      go_wp2_with fail
      refine (less128_any _ _ _ _ _).mono ?_
      rintro e w1 ⟨rfl, hb1⟩
      have n1 := (Blk.new (w := wr) (g := wr.heap.size) 57 #[.int .u64 x1, .int .i64 x2] rfl).below hb1
      have n5 := ((unhide B5).alloc (.cells #[.int .u64 x1, .int .i64 x2] 57)).below hb1
      have n4 := ((unhide B4).alloc (.cells #[.int .u64 x1, .int .i64 x2] 57)).below hb1
      have hB1 := below_tr ((unhide HB).alloc (unhide HB).size (.cells #[.int .u64 x1, .int .i64 x2] 57)) hb1 (by have := (unhide HB).size; simp; omega)
      obtain ⟨r0, r1, r2, r3, _⟩ := blk_two n1
      obtain ⟨s0, s1, s2, s3, _⟩ := blk_two n5
      have N5 := hide n5
      have N4 := hide n4
      have HB1 := hide hB1
      clear n1 n5 n4 hB1 hb1
      cases hbt : lt128 x1 x2 c1 c2
      case false =>
        have hrel := hide (show MRel2 w true (a0, a1) ps (.int .i64 ((k : Int) + 1)) w1 from ⟨k + 1, by omega, by simp, by rw [unhide htf]; unfold mst2; simp only [hbt]; exact unhide N5, unhide N4, unhide HB1⟩)
        clear hbt htf
        go_wp2
        exact ⟨unhide hrel, by simp [intOf]; omega⟩
      case true =>
        have hrel := hide (show MRel2 w true (a0, a1) ps (.int .i64 ((k : Int) + 1)) ((w1.setCell ⟨w.heap.size + 1 + 1, 0, none⟩ (.int .u64 x1)).setCell ⟨w.heap.size + 1 + 1, 1, none⟩ (.int .i64 x2)) from ⟨k + 1, by omega, by simp, by rw [unhide htf]; unfold mst2; simp only [hbt]; exact (((unhide N5).set 0 _).set 1 _), (((unhide N4).other (by simp) _).other (by simp) _), (((unhide HB1).setCell (by simp; omega) _).setCell (by simp; omega) _)⟩)
        clear hbt htf
        go_wp2
        exact ⟨unhide hrel, by simp [intOf]; omega⟩
    · obtain rfl : k = ps.length := by omega
      rw [List.take_length] at b5
      obtain ⟨q0, q1, q2, q3, _⟩ := blk_two b5
      obtain ⟨r0, r1, r2, r3, _⟩ := blk_two b4
      have HB := hide hb
      clear b5 b4 hb
      generalize ps.foldl (mst2 true) (a0, a1) = cu at *
      obtain ⟨c1, c2⟩ := cu
      dsimp only at q0 q1
      go_wp2
      refine bodyPost_ret (v := .agg #[.int .u64 c1, .int .i64 c2]) (by simp [results, Try.results39, go_sem, q0, q1, r0, r1]) rfl ?_
      exact ⟨rfl, (((unhide HB).setCell (by simp) _).setCell (by simp) _)⟩
/-- a row of numbers of 256 bits. -/
def N4 (w : World) (v : Value) (ps : List (Int × Int × Int × Int)) : Prop :=
  ∃ A c, v = .slice A ps.length c ∧ ps.length ≤ c ∧ ps.length ≤ 1000 ∧ (0 < ps.length → ∃ g, A = some ⟨g, 0, none⟩ ∧ g < w.heap.size ∧ ∀ k, k < ps.length → w.cell? ⟨g, k * 4, none⟩ = some (.int .u64 (ps.getD k (0, 0, 0, 0)).1) ∧ w.cell? ⟨g, k * 4 + 1, none⟩ = some (.int .u64 (ps.getD k (0, 0, 0, 0)).2.1) ∧ w.cell? ⟨g, k * 4 + 2, none⟩ = some (.int .u64 (ps.getD k (0, 0, 0, 0)).2.2.1) ∧ w.cell? ⟨g, k * 4 + 3, none⟩ = some (.int .u64 (ps.getD k (0, 0, 0, 0)).2.2.2))
theorem N4.below {w w1 : World} {v : Value} {ps : List (Int × Int × Int × Int)} (h : N4 w v ps) (hb : Below w.heap.size w w1) : N4 w1 v ps := by
  obtain ⟨A, c, e, h1, h2, h3⟩ := h
  refine ⟨A, c, e, h1, h2, fun hp => ?_⟩
  obtain ⟨g, e2, hg, hc⟩ := h3 hp
  refine ⟨g, e2, Nat.lt_of_lt_of_le hg hb.size, fun k hk => ?_⟩
  have := hc k hk
  obtain ⟨x0, x1, x2, x3⟩ := this
  exact ⟨(hb.cell (p := ⟨g, k * 4, none⟩) hg).trans x0, (hb.cell (p := ⟨g, k * 4 + 1, none⟩) hg).trans x1, (hb.cell (p := ⟨g, k * 4 + 2, none⟩) hg).trans x2, (hb.cell (p := ⟨g, k * 4 + 3, none⟩) hg).trans x3⟩
def mst4 (low : Bool) (m x : Int × Int × Int × Int) : Int × Int × Int × Int := if (if low then lt256 x.1 x.2.1 x.2.2.1 x.2.2.2 m.1 m.2.1 m.2.2.1 m.2.2.2 else lt256 m.1 m.2.1 m.2.2.1 m.2.2.2 x.1 x.2.1 x.2.2.1 x.2.2.2) then x else m
def MRel4 (w : World) (low : Bool) (p : Int × Int × Int × Int) (ps : List (Int × Int × Int × Int)) (v : Value) (wr : World) : Prop :=
  ∃ k : Nat, k ≤ ps.length ∧ v = .int .i64 (k : Int) ∧ Blk wr (w.heap.size + 1 + 1) 60 #[.int .u64 ((ps.take k).foldl (mst4 low) p).1, .int .u64 ((ps.take k).foldl (mst4 low) p).2.1, .int .u64 ((ps.take k).foldl (mst4 low) p).2.2.1, .int .u64 ((ps.take k).foldl (mst4 low) p).2.2.2] ∧ Blk wr (w.heap.size + 1) 60 #[.int .u64 0, .int .u64 0, .int .u64 0, .int .u64 0] ∧ Below w.heap.size w wr
def PNum4 (w : World) (p : Int × Int × Int × Int) (e : Ending) (w' : World) : Prop := e = .returned (.agg #[.int .u64 p.1, .int .u64 p.2.1, .int .u64 p.2.2.1, .int .u64 p.2.2.2]) ∧ Below w.heap.size w w'
set_option maxRecDepth 100000 in
set_option maxHeartbeats 4000000 in
theorem max256_any (w : World) (a0 a1 a2 a3 : Int) (v : Value) (ps : List (Int × Int × Int × Int)) (hv : N4 w v ps) :
    Calls Try.prog 42 #[.agg #[.int .u64 a0, .int .u64 a1, .int .u64 a2, .int .u64 a3], v] w (PNum4 w (ps.foldl (mst4 false) (a0, a1, a2, a3))) := by
  obtain ⟨A, c, rfl, hc, hl, hA⟩ := hv
  have h00 := hide (show MRel4 w false (a0, a1, a2, a3) ps (.int .i64 0) (((w.alloc (.cells #[.int .u64 a0, .int .u64 a1, .int .u64 a2, .int .u64 a3] 60)).alloc (.cells #[.int .u64 0, .int .u64 0, .int .u64 0, .int .u64 0] 60)).alloc (.cells #[.int .u64 a0, .int .u64 a1, .int .u64 a2, .int .u64 a3] 60)) from
    ⟨0, by omega, rfl, Blk.new _ _ (by simp), (Blk.new _ _ (by simp)).alloc _, (((Below.refl w.heap.size w).alloc (Nat.le_refl _) _).alloc (by simp) _).alloc (by simp; omega) _⟩)
  have HA := hide hA
  clear hA
  go_enter Try.func42, Try.ntmps42
  go_wp2
  go_loopw [11] (MRel4 w false (a0, a1, a2, a3) ps) (fun v _ => ps.length - (intOf v).toNat)
  case atStart => exact unhide h00
  case round =>
    obtain ⟨k, hk, rfl, b5, b4, hb⟩ := hrel
    by_cases hlt : k < ps.length
    · obtain ⟨g, rfl, hg, hcell⟩ := (unhide HA) (by omega)
      obtain ⟨z0, z1, z2, z3⟩ := hcell k hlt
      have y0 := (hb.cell (p := ⟨g, k * 4, none⟩) hg).trans z0
      have y1 := (hb.cell (p := ⟨g, k * 4 + 1, none⟩) hg).trans z1
      have y2 := (hb.cell (p := ⟨g, k * 4 + 2, none⟩) hg).trans z2
      have y3 := (hb.cell (p := ⟨g, k * 4 + 3, none⟩) hg).trans z3
      have htf := hide (take_fold (mst4 false) (a0, a1, a2, a3) ps k (0, 0, 0, 0) hlt)
      have hps := hide hlt
      clear z0 z1 z2 z3 hcell
      generalize hxx : ps.getD k (0, 0, 0, 0) = x at *
      generalize hcc : (ps.take k).foldl (mst4 false) (a0, a1, a2, a3) = cu at *
      clear hxx hcc
      obtain ⟨x1, x2, x3, x4⟩ := x
      obtain ⟨c1, c2, c3, c4⟩ := cu
      dsimp only at y0 y1 y2 y3 b5
      have hb5 := b5.lt
      have hb4 := b4.lt
      obtain ⟨q0, q1, q2, q3, q4, q5, q6, q7⟩ := blk_four b5
      have B5 := hide b5
      have B4 := hide b4
      have HB := hide hb
      clear b5 b4 hb
      go_wp2_with fail
      refine (greater256_any _ _ _ _ _ _ _ _ _).mono ?_
      rintro e w1 ⟨rfl, hb1⟩
      have n1 := (Blk.new (w := wr) (g := wr.heap.size) 60 #[.int .u64 x1, .int .u64 x2, .int .u64 x3, .int .u64 x4] rfl).below hb1
      have n5 := ((unhide B5).alloc (.cells #[.int .u64 x1, .int .u64 x2, .int .u64 x3, .int .u64 x4] 60)).below hb1
      have n4 := ((unhide B4).alloc (.cells #[.int .u64 x1, .int .u64 x2, .int .u64 x3, .int .u64 x4] 60)).below hb1
      have hB1 := below_tr ((unhide HB).alloc (unhide HB).size (.cells #[.int .u64 x1, .int .u64 x2, .int .u64 x3, .int .u64 x4] 60)) hb1 (by have := (unhide HB).size; simp; omega)
      obtain ⟨r0, r1, r2, r3, r4, r5, r6, r7⟩ := blk_four n1
      obtain ⟨s0, s1, s2, s3, s4, s5, s6, s7⟩ := blk_four n5
      have N5 := hide n5
      have N4 := hide n4
      have HB1 := hide hB1
      clear n1 n5 n4 hB1 hb1
      cases hbt : lt256 c1 c2 c3 c4 x1 x2 x3 x4
      case false =>
        have hrel := hide (show MRel4 w false (a0, a1, a2, a3) ps (.int .i64 ((k : Int) + 1)) w1 from ⟨k + 1, by omega, by simp, by rw [unhide htf]; unfold mst4; simp only [hbt]; exact unhide N5, unhide N4, unhide HB1⟩)
        clear hbt htf
        go_wp2
        exact ⟨unhide hrel, by simp [intOf]; omega⟩
      case true =>
        have hrel := hide (show MRel4 w false (a0, a1, a2, a3) ps (.int .i64 ((k : Int) + 1)) ((((w1.setCell ⟨w.heap.size + 1 + 1, 0, none⟩ (.int .u64 x1)).setCell ⟨w.heap.size + 1 + 1, 1, none⟩ (.int .u64 x2)).setCell ⟨w.heap.size + 1 + 1, 2, none⟩ (.int .u64 x3)).setCell ⟨w.heap.size + 1 + 1, 3, none⟩ (.int .u64 x4)) from ⟨k + 1, by omega, by simp, by rw [unhide htf]; unfold mst4; simp only [hbt]; exact (((((unhide N5).set 0 _).set 1 _).set 2 _).set 3 _), (((((unhide N4).other (by simp) _).other (by simp) _).other (by simp) _).other (by simp) _), (((((unhide HB1).setCell (by simp; omega) _).setCell (by simp; omega) _).setCell (by simp; omega) _).setCell (by simp; omega) _)⟩)
        clear hbt htf
        go_wp2
        exact ⟨unhide hrel, by simp [intOf]; omega⟩
    · obtain rfl : k = ps.length := by omega
      rw [List.take_length] at b5
      obtain ⟨q0, q1, q2, q3, q4, q5, q6, q7⟩ := blk_four b5
      obtain ⟨r0, r1, r2, r3, r4, r5, r6, r7⟩ := blk_four b4
      have HB := hide hb
      clear b5 b4 hb
      generalize ps.foldl (mst4 false) (a0, a1, a2, a3) = cu at *
      obtain ⟨c1, c2, c3, c4⟩ := cu
      dsimp only at q0 q1 q2 q3
      go_wp2
      refine bodyPost_ret (v := .agg #[.int .u64 c1, .int .u64 c2, .int .u64 c3, .int .u64 c4]) (by simp [results, Try.results42, go_sem, q0, q1, q2, q3, r0, r1, r2, r3]) rfl ?_
      exact ⟨rfl, (((((unhide HB).setCell (by simp) _).setCell (by simp) _).setCell (by simp) _).setCell (by simp) _)⟩
set_option maxRecDepth 100000 in
set_option maxHeartbeats 4000000 in
theorem min256_any (w : World) (a0 a1 a2 a3 : Int) (v : Value) (ps : List (Int × Int × Int × Int)) (hv : N4 w v ps) :
    Calls Try.prog 40 #[.agg #[.int .u64 a0, .int .u64 a1, .int .u64 a2, .int .u64 a3], v] w (PNum4 w (ps.foldl (mst4 true) (a0, a1, a2, a3))) := by
  obtain ⟨A, c, rfl, hc, hl, hA⟩ := hv
  have h00 := hide (show MRel4 w true (a0, a1, a2, a3) ps (.int .i64 0) (((w.alloc (.cells #[.int .u64 a0, .int .u64 a1, .int .u64 a2, .int .u64 a3] 60)).alloc (.cells #[.int .u64 0, .int .u64 0, .int .u64 0, .int .u64 0] 60)).alloc (.cells #[.int .u64 a0, .int .u64 a1, .int .u64 a2, .int .u64 a3] 60)) from
    ⟨0, by omega, rfl, Blk.new _ _ (by simp), (Blk.new _ _ (by simp)).alloc _, (((Below.refl w.heap.size w).alloc (Nat.le_refl _) _).alloc (by simp) _).alloc (by simp; omega) _⟩)
  have HA := hide hA
  clear hA
  go_enter Try.func40, Try.ntmps40
  go_wp2
  go_loopw [11] (MRel4 w true (a0, a1, a2, a3) ps) (fun v _ => ps.length - (intOf v).toNat)
  case atStart => exact unhide h00
  case round =>
    obtain ⟨k, hk, rfl, b5, b4, hb⟩ := hrel
    by_cases hlt : k < ps.length
    · obtain ⟨g, rfl, hg, hcell⟩ := (unhide HA) (by omega)
      obtain ⟨z0, z1, z2, z3⟩ := hcell k hlt
      have y0 := (hb.cell (p := ⟨g, k * 4, none⟩) hg).trans z0
      have y1 := (hb.cell (p := ⟨g, k * 4 + 1, none⟩) hg).trans z1
      have y2 := (hb.cell (p := ⟨g, k * 4 + 2, none⟩) hg).trans z2
      have y3 := (hb.cell (p := ⟨g, k * 4 + 3, none⟩) hg).trans z3
      have htf := hide (take_fold (mst4 true) (a0, a1, a2, a3) ps k (0, 0, 0, 0) hlt)
      have hps := hide hlt
      clear z0 z1 z2 z3 hcell
      generalize hxx : ps.getD k (0, 0, 0, 0) = x at *
      generalize hcc : (ps.take k).foldl (mst4 true) (a0, a1, a2, a3) = cu at *
      clear hxx hcc
      obtain ⟨x1, x2, x3, x4⟩ := x
      obtain ⟨c1, c2, c3, c4⟩ := cu
      dsimp only at y0 y1 y2 y3 b5
      have hb5 := b5.lt
      have hb4 := b4.lt
      obtain ⟨q0, q1, q2, q3, q4, q5, q6, q7⟩ := blk_four b5
      have B5 := hide b5
      have B4 := hide b4
      have HB := hide hb
      clear b5 b4 hb
      go_wp2_with fail
      refine (less256_any _ _ _ _ _ _ _ _ _).mono ?_
      rintro e w1 ⟨rfl, hb1⟩
      have n1 := (Blk.new (w := wr) (g := wr.heap.size) 60 #[.int .u64 x1, .int .u64 x2, .int .u64 x3, .int .u64 x4] rfl).below hb1
      have n5 := ((unhide B5).alloc (.cells #[.int .u64 x1, .int .u64 x2, .int .u64 x3, .int .u64 x4] 60)).below hb1
      have n4 := ((unhide B4).alloc (.cells #[.int .u64 x1, .int .u64 x2, .int .u64 x3, .int .u64 x4] 60)).below hb1
      have hB1 := below_tr ((unhide HB).alloc (unhide HB).size (.cells #[.int .u64 x1, .int .u64 x2, .int .u64 x3, .int .u64 x4] 60)) hb1 (by have := (unhide HB).size; simp; omega)
      obtain ⟨r0, r1, r2, r3, r4, r5, r6, r7⟩ := blk_four n1
      obtain ⟨s0, s1, s2, s3, s4, s5, s6, s7⟩ := blk_four n5
      have N5 := hide n5
      have N4 := hide n4
      have HB1 := hide hB1
      clear n1 n5 n4 hB1 hb1
      cases hbt : lt256 x1 x2 x3 x4 c1 c2 c3 c4
      case false =>
        have hrel := hide (show MRel4 w true (a0, a1, a2, a3) ps (.int .i64 ((k : Int) + 1)) w1 from ⟨k + 1, by omega, by simp, by rw [unhide htf]; unfold mst4; simp only [hbt]; exact unhide N5, unhide N4, unhide HB1⟩)
        clear hbt htf
        go_wp2
        exact ⟨unhide hrel, by simp [intOf]; omega⟩
      case true =>
        have hrel := hide (show MRel4 w true (a0, a1, a2, a3) ps (.int .i64 ((k : Int) + 1)) ((((w1.setCell ⟨w.heap.size + 1 + 1, 0, none⟩ (.int .u64 x1)).setCell ⟨w.heap.size + 1 + 1, 1, none⟩ (.int .u64 x2)).setCell ⟨w.heap.size + 1 + 1, 2, none⟩ (.int .u64 x3)).setCell ⟨w.heap.size + 1 + 1, 3, none⟩ (.int .u64 x4)) from ⟨k + 1, by omega, by simp, by rw [unhide htf]; unfold mst4; simp only [hbt]; exact (((((unhide N5).set 0 _).set 1 _).set 2 _).set 3 _), (((((unhide N4).other (by simp) _).other (by simp) _).other (by simp) _).other (by simp) _), (((((unhide HB1).setCell (by simp; omega) _).setCell (by simp; omega) _).setCell (by simp; omega) _).setCell (by simp; omega) _)⟩)
        clear hbt htf
        go_wp2
        exact ⟨unhide hrel, by simp [intOf]; omega⟩
    · obtain rfl : k = ps.length := by omega
      rw [List.take_length] at b5
      obtain ⟨q0, q1, q2, q3, q4, q5, q6, q7⟩ := blk_four b5
      obtain ⟨r0, r1, r2, r3, r4, r5, r6, r7⟩ := blk_four b4
      have HB := hide hb
      clear b5 b4 hb
      generalize ps.foldl (mst4 true) (a0, a1, a2, a3) = cu at *
      obtain ⟨c1, c2, c3, c4⟩ := cu
      dsimp only at q0 q1 q2 q3
      go_wp2
      refine bodyPost_ret (v := .agg #[.int .u64 c1, .int .u64 c2, .int .u64 c3, .int .u64 c4]) (by simp [results, Try.results40, go_sem, q0, q1, q2, q3, r0, r1, r2, r3]) rfl ?_
      exact ⟨rfl, (((((unhide HB).setCell (by simp) _).setCell (by simp) _).setCell (by simp) _).setCell (by simp) _)⟩
/-- a slice of values. -/
def Vs (w : World) (v : Value) (vs : List Value) : Prop := ∃ A c, v = .slice A vs.length c ∧ vs.length ≤ c ∧ Sl w w.heap.size A vs.length vs
def c2 (ps : List (Int × Int)) : List Value := ps.flatMap fun p => [.int .u64 p.1, .int .i64 p.2]
def c4 (qs : List (Int × Int × Int × Int)) : List Value := qs.flatMap fun q => [.int .u64 q.1, .int .u64 q.2.1, .int .u64 q.2.2.1, .int .u64 q.2.2.2]
theorem c2_len (ps : List (Int × Int)) : (c2 ps).length = ps.length * 2 := by
  induction ps with
  | nil => rfl
  | cons p ps ih => simp [c2] at *; omega
theorem c4_len (qs : List (Int × Int × Int × Int)) : (c4 qs).length = qs.length * 4 := by
  induction qs with
  | nil => rfl
  | cons p ps ih => simp [c4] at *; omega
def LRel (w2 : World) (ps : List (Int × Int)) (qs : List (Int × Int × Int × Int)) (v12 v13 v32 : Value) (wr : World) : Prop :=
  ∃ k : Nat, k ≤ ps.length ∧ v32 = .int .i64 (k : Int) ∧ wr.ownsRow w2.heap.size 57 2 v12 k (c2 (ps.take k)) ∧ wr.ownsRow w2.heap.size 60 4 v13 k (c4 (qs.take k)) ∧ Below w2.heap.size w2 wr
theorem own_far_ty {w w' : World} {B B' e e' s s' n n' : Nat} {v v' : Value} {xs xs' : List Value} (h : w.ownsRow B e s v n xs) (h' : w.ownsRow B' e' s' v' n' xs') (hne : e ≠ e') (hg : w.grownBy w' v'.ownBlock) : w'.ownsRow B e s v n xs := by
  refine ⟨h.1, ?_⟩
  rcases h.2 with h2 | ⟨g, cap, cur, rfl, hb, hh, r⟩
  · exact .inl h2
  · refine .inr ⟨g, cap, cur, rfl, hb, (hg.block g (Array.getElem?_eq_some_iff.1 hh).1 ?_).trans hh, r⟩
    intro he
    rcases h'.2 with ⟨rfl, _⟩ | ⟨g', cap', cur', rfl, hb', hh', _⟩
    · simp [Value.ownBlock] at he
    · have : g = g' := by simpa [Value.ownBlock] using he
      subst this
      rw [hh] at hh'
      injection hh' with hh'
      injection hh' with _ ht
      exact hne ht
theorem own_below {w w' : World} {B e s n : Nat} {v : Value} {xs : List Value} (h : w.ownsRow B e s v n xs) (hb : Below w.heap.size w w') : w'.ownsRow B e s v n xs := own_mod h (Mod.of_below (S := []) hb) (by simp)
theorem info57 : (Try.prog.info? 57).map (fun i => (i.zero, i.size, i.bytes)) = some (some (.agg #[.int .u64 0, .int .i64 0]), 2, 16) := by kernel_rfl
theorem info60 : (Try.prog.info? 60).map (fun i => (i.zero, i.size, i.bytes)) = some (some (.agg #[.int .u64 0, .int .u64 0, .int .u64 0, .int .u64 0]), 4, 32) := by kernel_rfl
def RK (w2 : World) (g : Nat) (V : Array Value) (W : World) : Prop := Blk W g 62 V ∧ w2.heap.size ≤ g ∧ Below w2.heap.size w2 W
theorem RK.drew {w2 W : World} {g : Nat} {V : Array Value} (h : RK w2 g V W) : RK w2 g V W.drew := ⟨h.1.drew, h.2.1, bdrew h.2.2⟩
theorem RK.alloc {w2 W : World} {g : Nat} {V : Array Value} (h : RK w2 g V W) (o : Obj) : RK w2 g V (W.alloc o) := ⟨h.1.alloc o, h.2.1, h.2.2.alloc h.2.2.size o⟩
theorem RK.grown {w2 W W' : World} {g B e s n : Nat} {V : Array Value} {v : Value} {xs : List Value} (h : RK w2 g V W) (ho : W.ownsRow B e s v n xs) (he : e ≠ 62) (hB : w2.heap.size ≤ B) (hg : W.grownBy W' v.ownBlock) : RK w2 g V W' := by
  refine ⟨(hg.block g h.1.lt ?_).trans h.1, h.2.1, h.2.2.grown hg h.2.2.size ?_⟩
  · intro hh
    rcases ho.2 with ⟨rfl, _⟩ | ⟨g', cap', cur', rfl, hb', hh', _⟩
    · simp [Value.ownBlock] at hh
    · have : g = g' := by simpa [Value.ownBlock] using hh
      subst this
      have h1 := h.1
      unfold Blk at h1
      rw [h1] at hh'
      injection hh' with hh'
      injection hh' with _ ht
      exact he ht.symm
  · intro b hb
    rcases ho.2 with ⟨rfl, _⟩ | ⟨g', cap', cur', rfl, hb', hh', _⟩
    · simp [Value.ownBlock] at hb
    · have : g' = b := by simpa [Value.ownBlock] using hb
      omega
theorem blk_far_ty {w w' : World} {B e s n g t : Nat} {v : Value} {xs : List Value} {cs : Array Value} (hb : Blk w g t cs) (h : w.ownsRow B e s v n xs) (hne : e ≠ t) (hg : w.grownBy w' v.ownBlock) : Blk w' g t cs := by
  refine (hg.block g hb.lt ?_).trans hb
  intro he
  rcases h.2 with ⟨rfl, _⟩ | ⟨g', cap', cur', rfl, hb', hh', _⟩
  · simp [Value.ownBlock] at he
  · have : g = g' := by simpa [Value.ownBlock] using he
    subst this
    unfold Blk at hb
    rw [hb] at hh'
    injection hh' with hh'
    injection hh' with _ ht
    exact hne ht.symm
theorem c2_snoc (ps : List (Int × Int)) (k : Nat) (h : k < ps.length) : c2 (ps.take (k + 1)) = c2 (ps.take k) ++ [.int .u64 (ps.getD k (0, 0)).1, .int .i64 (ps.getD k (0, 0)).2] := by
  rw [List.take_succ_eq_append_getElem h, List.getD_eq_getElem?_getD, List.getElem?_eq_getElem h]
  simp only [c2, List.flatMap_append, List.flatMap_cons, List.flatMap_nil, List.append_nil, Option.getD_some]
theorem c4_snoc (ps : List (Int × Int × Int × Int)) (k : Nat) (h : k < ps.length) : c4 (ps.take (k + 1)) = c4 (ps.take k) ++ [.int .u64 (ps.getD k (0, 0, 0, 0)).1, .int .u64 (ps.getD k (0, 0, 0, 0)).2.1, .int .u64 (ps.getD k (0, 0, 0, 0)).2.2.1, .int .u64 (ps.getD k (0, 0, 0, 0)).2.2.2] := by
  rw [List.take_succ_eq_append_getElem h, List.getD_eq_getElem?_getD, List.getElem?_eq_getElem h]
  simp only [c4, List.flatMap_append, List.flatMap_cons, List.flatMap_nil, List.append_nil, Option.getD_some]
theorem c2_get : ∀ (ps : List (Int × Int)) (k : Nat), k < ps.length → (c2 ps)[k * 2]? = some (.int .u64 (ps.getD k (0, 0)).1) ∧ (c2 ps)[k * 2 + 1]? = some (.int .i64 (ps.getD k (0, 0)).2)
  | [], k, h => by simp at h
  | p :: ps, 0, _ => by simp [c2]
  | p :: ps, k + 1, h => by
    obtain ⟨h1, h2⟩ := c2_get ps k (by simpa using h)
    have e : c2 (p :: ps) = .int .u64 p.1 :: .int .i64 p.2 :: c2 ps := rfl
    rw [e, show (k + 1) * 2 = k * 2 + 1 + 1 by omega, List.getElem?_cons_succ, List.getElem?_cons_succ, List.getElem?_cons_succ, List.getElem?_cons_succ, h1, List.getD_cons_succ]
    exact ⟨rfl, h2⟩
theorem c4_get : ∀ (ps : List (Int × Int × Int × Int)) (k : Nat), k < ps.length → (c4 ps)[k * 4]? = some (.int .u64 (ps.getD k (0, 0, 0, 0)).1) ∧ (c4 ps)[k * 4 + 1]? = some (.int .u64 (ps.getD k (0, 0, 0, 0)).2.1) ∧ (c4 ps)[k * 4 + 2]? = some (.int .u64 (ps.getD k (0, 0, 0, 0)).2.2.1) ∧ (c4 ps)[k * 4 + 3]? = some (.int .u64 (ps.getD k (0, 0, 0, 0)).2.2.2)
  | [], k, h => by simp at h
  | p :: ps, 0, _ => by simp [c4]
  | p :: ps, k + 1, h => by
    obtain ⟨h1, h2, h3, h4⟩ := c4_get ps k (by simpa using h)
    have e : c4 (p :: ps) = .int .u64 p.1 :: .int .u64 p.2.1 :: .int .u64 p.2.2.1 :: .int .u64 p.2.2.2 :: c4 ps := rfl
    rw [e, show (k + 1) * 4 = k * 4 + 1 + 1 + 1 + 1 by omega]
    simp only [List.getElem?_cons_succ, List.getD_cons_succ]
    exact ⟨h1, h2, h3, h4⟩
theorem own_n2 {w : World} {B n : Nat} {v : Value} {ps : List (Int × Int)} (h : w.ownsRow B 57 2 v n (c2 ps)) (hn : ps.length = n) (h1 : n ≤ 1000) : N2 w v ps := by
  subst hn
  rcases h.2 with ⟨rfl, h2⟩ | ⟨g, cap, cur, rfl, hb, hh, hc, _⟩
  · obtain rfl : ps = [] := List.eq_nil_of_length_eq_zero h2
    exact ⟨none, 0, rfl, by simp, by simp, fun hp => by simp at hp⟩
  · refine ⟨_, cap, rfl, hc, h1, fun _ => ⟨g, rfl, (Array.getElem?_eq_some_iff.1 hh).1, fun k hk => ?_⟩⟩
    obtain ⟨e1, e2⟩ := c2_get ps k hk
    have q1 := h.cells (g := g) rfl _ _ e1
    have q2 := h.cells (g := g) rfl _ _ e2
    have ea : ∀ j, (⟨g, 0, none⟩ : Addr).add j = ⟨g, j, none⟩ := fun j => by unfold Addr.add; split <;> simp_all
    rw [ea] at q1 q2
    exact ⟨q1, q2⟩
theorem own_n4 {w : World} {B n : Nat} {v : Value} {ps : List (Int × Int × Int × Int)} (h : w.ownsRow B 60 4 v n (c4 ps)) (hn : ps.length = n) (h1 : n ≤ 1000) : N4 w v ps := by
  subst hn
  rcases h.2 with ⟨rfl, h2⟩ | ⟨g, cap, cur, rfl, hb, hh, hc, _⟩
  · obtain rfl : ps = [] := List.eq_nil_of_length_eq_zero h2
    exact ⟨none, 0, rfl, by simp, by simp, fun hp => by simp at hp⟩
  · refine ⟨_, cap, rfl, hc, h1, fun _ => ⟨g, rfl, (Array.getElem?_eq_some_iff.1 hh).1, fun k hk => ?_⟩⟩
    obtain ⟨e1, e2, e3, e4⟩ := c4_get ps k hk
    have q1 := h.cells (g := g) rfl _ _ e1
    have q2 := h.cells (g := g) rfl _ _ e2
    have q3 := h.cells (g := g) rfl _ _ e3
    have q4 := h.cells (g := g) rfl _ _ e4
    have ea : ∀ j, (⟨g, 0, none⟩ : Addr).add j = ⟨g, j, none⟩ := fun j => by unfold Addr.add; split <;> simp_all
    rw [ea] at q1 q2 q3 q4
    exact ⟨q1, q2, q3, q4⟩
theorem own_set_far {w : World} {B e s n b t : Nat} {v : Value} {xs : List Value} {cs : Array Value} (h : w.ownsRow B e s v n xs) (hb : Blk w b t cs) (hne : e ≠ t) (i : Nat) (x : Value) : (w.setCell ⟨b, i, none⟩ x).ownsRow B e s v n xs := by
  refine ⟨h.1, ?_⟩
  rcases h.2 with h2 | ⟨g, cap, cur, rfl, hb', hh, r⟩
  · exact .inl h2
  · refine .inr ⟨g, cap, cur, rfl, hb', ?_, r⟩
    have : g ≠ b := fun he => by
      subst he
      unfold Blk at hb
      rw [hh] at hb
      injection hb with hb
      injection hb with _ ht
      exact hne ht
    rw [heap_set_other _ _ _ _ this]; exact hh
theorem blk_oneF {w : World} {g : Nat} {t : TypeId} {u : Value} (h : Blk w g t #[u]) : w.cell? ⟨g, 0, none⟩ = some u ∧ w.frozen? ⟨g, 0, none⟩ = false := ⟨by have := h.cell 0; simpa using this, h.frozen 0⟩
def KDm (w : World) (g8 B n : Nat) (V : Array Value) (u12 u13 : Value) (ps : List (Int × Int)) (qs : List (Int × Int × Int × Int)) (W : World) : Prop :=
  Blk W g8 62 V ∧ W.ownsRow B 57 2 u12 n (c2 ps) ∧ W.ownsRow B 60 4 u13 n (c4 qs) ∧ (∃ x, Blk W w.heap.size 22 #[x]) ∧ (∃ y, Blk W (w.heap.size + 1) 4 #[y]) ∧ Below w.heap.size w W
theorem KDm.below {w W W' : World} {g8 B n : Nat} {V : Array Value} {u12 u13 : Value} {ps : List (Int × Int)} {qs : List (Int × Int × Int × Int)} (h : KDm w g8 B n V u12 u13 ps qs W) (hb : Below W.heap.size W W') : KDm w g8 B n V u12 u13 ps qs W' := by
  obtain ⟨h1, h2, h3, ⟨x, h4⟩, ⟨y, h5⟩, h6⟩ := h
  exact ⟨h1.below hb, own_below h2 hb, own_below h3 hb, ⟨x, h4.below hb⟩, ⟨y, h5.below hb⟩, below_tr h6 hb h6.size⟩
theorem KDm.drew {w W : World} {g8 B n : Nat} {V : Array Value} {u12 u13 : Value} {ps : List (Int × Int)} {qs : List (Int × Int × Int × Int)} (h : KDm w g8 B n V u12 u13 ps qs W) : KDm w g8 B n V u12 u13 ps qs W.drew := h.below (bdrew (Below.refl _ _))
theorem KDm.set8 {w W : World} {g8 B n : Nat} {V : Array Value} {u12 u13 : Value} {ps : List (Int × Int)} {qs : List (Int × Int × Int × Int)} (h : KDm w g8 B n V u12 u13 ps qs W) (v : Value) : KDm w g8 B n V u12 u13 ps qs (W.setCell ⟨w.heap.size, 0, none⟩ v) := by
  obtain ⟨h1, h2, h3, ⟨x, h4⟩, ⟨y, h5⟩, h6⟩ := h
  refine ⟨h1.other (fun e => ?_) _, own_set_far h2 h4 (by decide) 0 v, own_set_far h3 h4 (by decide) 0 v, ⟨v, by have := h4.set 0 v; simpa using this⟩, ⟨y, h5.other (by simp) _⟩, h6.setCell (Nat.le_refl _) _⟩
  exact absurd (h1.uniq (by rw [e]; exact h4)).1 (by decide)
theorem KDm.set9 {w W : World} {g8 B n : Nat} {V : Array Value} {u12 u13 : Value} {ps : List (Int × Int)} {qs : List (Int × Int × Int × Int)} (h : KDm w g8 B n V u12 u13 ps qs W) (v : Value) : KDm w g8 B n V u12 u13 ps qs (W.setCell ⟨w.heap.size + 1, 0, none⟩ v) := by
  obtain ⟨h1, h2, h3, ⟨x, h4⟩, ⟨y, h5⟩, h6⟩ := h
  refine ⟨h1.other (fun e => ?_) _, own_set_far h2 h5 (by decide) 0 v, own_set_far h3 h5 (by decide) 0 v, ⟨x, h4.other (by simp) _⟩, ⟨v, by have := h5.set 0 v; simpa using this⟩, h6.setCell (by simp) _⟩
  exact absurd (h1.uniq (by rw [e]; exact h5)).1 (by decide)
set_option maxRecDepth 100000 in
set_option maxHeartbeats 4000000 in
theorem decMost_of (w : World) (v : Value) (width : Int) (low : Bool) (R : Value) (vs : List Value) (p : Int × Int) (q : Int × Int × Int × Int) (ps : List (Int × Int)) (qs : List (Int × Int × Int × Int))
    (hw : 128 ≤ width) (hR : Vs w R vs) (hn : vs.length ≤ 20) (hps : ps.length = vs.length) (hqs : qs.length = vs.length) (res : List Int)
    (hdec0 : ∀ W : World, Below w.heap.size w W → Calls Try.prog 24 #[.int .i64 width, v] W (PDec W (decV width 0 0 p.1 p.2 q.1 q.2.1 q.2.2.1 q.2.2.2)))
    (hdec : ∀ (k : Nat) (u : Value), vs[k]? = some u → ∀ W : World, Below w.heap.size w W → Calls Try.prog 24 #[.int .i64 width, u] W (PDec W (decV width 0 0 (ps.getD k (0, 0)).1 (ps.getD k (0, 0)).2 (qs.getD k (0, 0, 0, 0)).1 (qs.getD k (0, 0, 0, 0)).2.1 (qs.getD k (0, 0, 0, 0)).2.2.1 (qs.getD k (0, 0, 0, 0)).2.2.2)))
    (hwords : ∀ W : World, Calls Try.prog 33 #[decV width 0 0 (ps.foldl (mst2 low) p).1 (ps.foldl (mst2 low) p).2 (qs.foldl (mst4 low) q).1 (qs.foldl (mst4 low) q).2.1 (qs.foldl (mst4 low) q).2.2.1 (qs.foldl (mst4 low) q).2.2.2] W (PWords W res)) :
    Calls Try.prog 15 #[.int .i64 width, .bool low, v, R] w (PUn w res) := by
  obtain ⟨A, c, rfl, hc, hsl⟩ := hR
  obtain ⟨p1, p2⟩ := p
  obtain ⟨q1, q2, q3, q4⟩ := q
  have hD0 := hide hdec0
  have hD := hide hdec
  have hW := hide hwords
  have hS := hide hsl
  clear hdec0 hdec hwords hsl
  have hwb : decide (width < 128) = false := by simp; omega
  unfold decV at hD0 hD hW
  dsimp only at hD0
  have HPS := hide hps
  have HQS := hide hqs
  clear hps hqs
  go_enter_defers Try.func15, Try.ntmps15
  go_wp2_with fail
  refine ((unhide hD0) _ (((Below.refl _ _).alloc (Nat.le_refl _) _).alloc (by simp) _)).mono ?_
  rintro e w1 ⟨rfl, hb1⟩
  have k0 : Blk w1 w.heap.size 22 #[.slice none 0 0] := (((Blk.new (w := w) (g := w.heap.size) 22 _ rfl).alloc _).below hb1)
  have k1 : Blk w1 (w.heap.size + 1) 4 #[.bool false] := ((Blk.new (w := w.alloc _) (g := w.heap.size + 1) 4 _ (by simp)).below hb1)
  have hB1 : Below w.heap.size w w1 := below_tr (((Below.refl w.heap.size w).alloc (Nat.le_refl _) _).alloc (by simp) _) hb1 (by simp; omega)
  have K0 := hide k0
  have K1 := hide k1
  have HB1 := hide hB1
  clear k0 k1 hB1 hb1
  go_wp2_with fail
  have hw2 : ∃ w2, w2 = w1.alloc (.cells #[.int .i64 width, .int .i32 0, .int .i64 0, .int .u64 p1, .int .i64 p2, .int .u64 q1, .int .u64 q2, .int .u64 q3, .int .u64 q4] 62) := ⟨_, rfl⟩
  obtain ⟨w2, hw2⟩ := hw2
  have k8 : Blk w2 w1.heap.size 62 #[.int .i64 width, .int .i32 0, .int .i64 0, .int .u64 p1, .int .i64 p2, .int .u64 q1, .int .u64 q2, .int .u64 q3, .int .u64 q4] := by rw [hw2]; exact Blk.new _ _ rfl
  have k02 : Blk w2 w.heap.size 22 #[.slice none 0 0] := by rw [hw2]; exact (unhide K0).alloc _
  have k12 : Blk w2 (w.heap.size + 1) 4 #[.bool false] := by rw [hw2]; exact (unhide K1).alloc _
  have hB2 : Below w.heap.size w w2 := by rw [hw2]; exact (unhide HB1).alloc (unhide HB1).size _
  rw [← hw2]
  have hg1 : w.heap.size + 1 < w1.heap.size := (unhide K1).lt
  generalize w1.heap.size = g8 at k8 hg1 ⊢
  have hg8 := k8.lt
  clear hw2 K0 K1 HB1
  have K8 := hide k8
  have K0 := hide k02
  have K1 := hide k12
  have HB2 := hide hB2
  clear k8 k02 k12 hB2
  have h00 := hide (show LRel w2 ps qs (.slice none 0 0) (.slice none 0 0) (.int .i64 0) w2 from ⟨0, by omega, rfl, World.ownsRow_nil _ _ _ _, World.ownsRow_nil _ _ _ _, Below.refl _ _⟩)
  go_loopw [12, 13, 32] (LRel w2 ps qs) (fun _ _ v32 _ => vs.length - (intOf v32).toNat)
  case atStart => exact unhide h00
  case round =>
    obtain ⟨k, hk, rfl, o12, o13, hb⟩ := hrel
    rw [unhide HPS] at hk
    by_cases hlt : k < vs.length
    · obtain ⟨b, off, rfl, hbl, hcell⟩ := (unhide hS).2 (by omega)
      have hu : vs[k]? = some vs[k] := List.getElem?_eq_getElem hlt
      have hbw := below_tr (unhide HB2) hb (unhide HB2).size
      have y0 := (hbw.cell (p := ⟨b, off + k, none⟩) hbl).trans (hcell k _ hu)
      have HD := hide ((unhide hD) k _ hu)
      generalize vs[k] = u at *
      have O12 := hide o12
      have O13 := hide o13
      have HB := hide hb
      have HBW := hide hbw
      have HU := hide hu
      have HC2 := hide (c2_snoc ps k (by rw [unhide HPS]; exact hlt))
      have HC4 := hide (c4_snoc qs k (by rw [unhide HQS]; exact hlt))
      clear o12 o13 hb hbw hcell hu hD
      generalize ps.getD k (0, 0) = pk at *
      generalize qs.getD k (0, 0, 0, 0) = qk at *
      obtain ⟨x1, x2⟩ := pk
      obtain ⟨y1, y2, y3, y4⟩ := qk
      go_wp2_with fail
      refine ((unhide HD) _ (unhide HBW)).mono ?_
      rintro e w3 ⟨rfl, hb3⟩
      have HB3 := hide hb3
      clear hb3
      go_upto_region 13 with (fail)
      have hw4 : ∃ w4, w4 = w3.alloc (.cells #[.int .i64 width, .int .i32 0, .int .i64 0, .int .u64 x1, .int .i64 x2, .int .u64 y1, .int .u64 y2, .int .u64 y3, .int .u64 y4] 62) := ⟨_, rfl⟩
      obtain ⟨w4, hw4⟩ := hw4
      have hrk : RK w2 w3.heap.size #[.int .i64 width, .int .i32 0, .int .i64 0, .int .u64 x1, .int .i64 x2, .int .u64 y1, .int .u64 y2, .int .u64 y3, .int .u64 y4] w4 := by
        rw [hw4]
        have hle := (unhide HB).size
        exact ⟨Blk.new _ _ rfl, Nat.le_trans hle (unhide HB3).size, (below_tr (unhide HB) (unhide HB3) hle).alloc (Nat.le_trans hle (unhide HB3).size) _⟩
      have o12 : w4.ownsRow w2.heap.size 57 2 u12 k (c2 (ps.take k)) := by rw [hw4]; exact (own_below (unhide O12) (unhide HB3)).alloc _
      have o13 : w4.ownsRow w2.heap.size 60 4 u13 k (c4 (qs.take k)) := by rw [hw4]; exact (own_below (unhide O13) (unhide HB3)).alloc _
      rw [← hw4]
      have hle4 : w2.heap.size ≤ w4.heap.size := hrk.2.2.size
      generalize w3.heap.size = g16 at hrk ⊢
      clear hw4 O12 O13 HB3 HD HBW HU y0
      have hS6 := hide (fun (W : World) (h : RK w2 g16 #[.int .i64 width, .int .i32 0, .int .i64 0, .int .u64 x1, .int .i64 x2, .int .u64 y1, .int .u64 y2, .int .u64 y3, .int .u64 y4] W) => (show W.cell? ⟨g16, 3, none⟩ = some (.int .u64 x1) ∧ W.cell? ⟨g16, 4, none⟩ = some (.int .i64 x2) ∧ W.cell? ⟨g16, 5, none⟩ = some (.int .u64 y1) ∧ W.cell? ⟨g16, 6, none⟩ = some (.int .u64 y2) ∧ W.cell? ⟨g16, 7, none⟩ = some (.int .u64 y3) ∧ W.cell? ⟨g16, 8, none⟩ = some (.int .u64 y4) ∧ RK w2 g16 #[.int .i64 width, .int .i32 0, .int .i64 0, .int .u64 x1, .int .i64 x2, .int .u64 y1, .int .u64 y2, .int .u64 y3, .int .u64 y4] W from
        ⟨by have := h.1.cell 3; simpa using this, by have := h.1.cell 4; simpa using this, by have := h.1.cell 5; simpa using this, by have := h.1.cell 6; simpa using this, by have := h.1.cell 7; simpa using this, by have := h.1.cell 8; simpa using this, h⟩))
      obtain ⟨i0, hi0, hz0, hz1, hz2⟩ := info_parts info57
      obtain ⟨j0, hj0, hy0, hy1, hy2⟩ := info_parts info60
      have tok1 : True := trivial
      have hk63 : k + 1 ≤ maxLen := by simp [maxLen]; omega
      have hk20 : k < 20 := by omega
      obtain ⟨e3, e4, e5, e6, e7, e8, hrk0⟩ := (unhide hS6) _ hrk
      go_region_held3 (fun W => W.cell? ⟨g16, 3, none⟩ = some (.int .u64 x1) ∧ W.cell? ⟨g16, 4, none⟩ = some (.int .i64 x2) ∧ W.cell? ⟨g16, 5, none⟩ = some (.int .u64 y1) ∧ W.cell? ⟨g16, 6, none⟩ = some (.int .u64 y2) ∧ W.cell? ⟨g16, 7, none⟩ = some (.int .u64 y3) ∧ W.cell? ⟨g16, 8, none⟩ = some (.int .u64 y4) ∧ RK w2 g16 #[.int .i64 width, .int .i32 0, .int .i64 0, .int .u64 x1, .int .i64 x2, .int .u64 y1, .int .u64 y2, .int .u64 y3, .int .u64 y4] W)
        ((refine (unhide hS6) _ ?_; (repeat' (first | (with_reducible assumption) | (with_reducible refine RK.drew ?_) | (with_reducible refine RK.alloc ?_ _)))))
        (first
          | (have _t := tok1; refine step_append_lies _ ?_ (.tmp 44) (.tmp 47) 74 ?_ w2.heap.size 57 i0 _ 2 16 Try.underlying74 hi0 hz0 hz1 hz2 rfl ?_ u12 k (c2 (ps.take k)) ?_ ?_ ⟨w4.heap.size, 0, none⟩ 1 1 [.int .u64 x1, .int .i64 x2] ?_ ?_ ?_ ?_ ?_ hk63 ?_ ?_ _ rfl ?_; (focus rfl); (focus rfl); (focus omega); (focus rfl); (focus (repeat' (first | (with_reducible exact o12) | (with_reducible refine World.ownsRow.alloc ?_ _) | (with_reducible refine World.ownsRow.drew ?_)))); (focus rfl); (focus rfl); (focus (first | exact World.news_of_block (heap_alloc_new _ _) | (refine World.news_of_block (Blk.drew (Blk.alloc (Blk.new _ _ ?_) _)); simp; done) | (refine World.news_of_block (Blk.drew (Blk.new _ _ ?_)); simp; done) | exact World.news_of_block (Blk.drew (Blk.alloc (Blk.new _ _ rfl) _)) | exact World.news_of_block (Blk.drew (Blk.new _ _ rfl)))); (focus simp [Value.oneCell']); (focus omega); (focus omega); (focus first | omega | (simp; omega)); (intro g cap w5 hown1 hgrow1 hat1 hlt1); (have rk5 : RK w2 g16 #[.int .i64 width, .int .i32 0, .int .i64 0, .int .u64 x1, .int .i64 x2, .int .u64 y1, .int .u64 y2, .int .u64 y3, .int .u64 y4] w5 := by (refine RK.grown (B := w2.heap.size) (e := 57) (s := 2) (n := k) (xs := c2 (ps.take k)) ?_ ?_ (by decide) (Nat.le_refl _) hgrow1 <;> (repeat' (first | (with_reducible exact hrk) | (with_reducible exact o12) | (with_reducible exact o13) | (with_reducible exact o13w) | (with_reducible exact rk5) | (with_reducible refine RK.drew ?_) | (with_reducible refine RK.alloc ?_ _) | (with_reducible refine World.ownsRow.alloc ?_ _) | (with_reducible refine World.ownsRow.drew ?_))))); (first | ((refine (have nb60 : Blk w5 (w4.heap.size + 1) 60 #[.int .u64 y1, .int .u64 y2, .int .u64 y3, .int .u64 y4] := ?_; ?_)); (focus (refine blk_far_ty (B := w2.heap.size) (e := 57) (s := 2) (n := k) (xs := c2 (ps.take k)) ?_ ?_ (by decide) hgrow1; (focus (with_reducible refine Blk.drew ?_; refine Blk.new _ _ ?_; simp; done)); (focus ((repeat' (first | (with_reducible exact o12) | (with_reducible refine World.ownsRow.alloc ?_ _) | (with_reducible refine World.ownsRow.drew ?_))); done))))) | ((refine (have nb60 : Blk w5 w4.heap.size 60 #[.int .u64 y1, .int .u64 y2, .int .u64 y3, .int .u64 y4] := ?_; ?_)); (focus (refine blk_far_ty (B := w2.heap.size) (e := 57) (s := 2) (n := k) (xs := c2 (ps.take k)) ?_ ?_ (by decide) hgrow1; (focus (with_reducible refine Blk.drew ?_; with_reducible refine Blk.alloc ?_ _; refine Blk.new _ _ ?_; rfl; done)); (focus ((repeat' (first | (with_reducible exact o12) | (with_reducible refine World.ownsRow.alloc ?_ _) | (with_reducible refine World.ownsRow.drew ?_))); done))))) | skip); (have hle5 : w2.heap.size ≤ w5.heap.size := rk5.2.2.size); (have o13w : w5.ownsRow w2.heap.size 60 4 u13 k (c4 (qs.take k)) := by (refine own_far_ty (e := 60) (B' := w2.heap.size) (e' := 57) (s' := 2) (n' := k) (xs' := c2 (ps.take k)) ?_ ?_ (by decide) hgrow1 <;> (repeat' (first | (with_reducible exact hrk) | (with_reducible exact o12) | (with_reducible exact o13) | (with_reducible exact o13w) | (with_reducible exact rk5) | (with_reducible refine RK.drew ?_) | (with_reducible refine RK.alloc ?_ _) | (with_reducible refine World.ownsRow.alloc ?_ _) | (with_reducible refine World.ownsRow.drew ?_))))); (have tok2 : True := trivial); clear tok1)
          | (have _t := tok1; refine step_append_lies _ ?_ (.tmp 44) (.tmp 47) 74 ?_ w2.heap.size 57 i0 _ 2 16 Try.underlying74 hi0 hz0 hz1 hz2 rfl ?_ u12 k (c2 (ps.take k)) ?_ ?_ ⟨w4.heap.size + 1, 0, none⟩ 1 1 [.int .u64 x1, .int .i64 x2] ?_ ?_ ?_ ?_ ?_ hk63 ?_ ?_ _ rfl ?_; (focus rfl); (focus rfl); (focus omega); (focus rfl); (focus (repeat' (first | (with_reducible exact o12) | (with_reducible refine World.ownsRow.alloc ?_ _) | (with_reducible refine World.ownsRow.drew ?_)))); (focus rfl); (focus rfl); (focus (first | exact World.news_of_block (heap_alloc_new _ _) | (refine World.news_of_block (Blk.drew (Blk.alloc (Blk.new _ _ ?_) _)); simp; done) | (refine World.news_of_block (Blk.drew (Blk.new _ _ ?_)); simp; done) | exact World.news_of_block (Blk.drew (Blk.alloc (Blk.new _ _ rfl) _)) | exact World.news_of_block (Blk.drew (Blk.new _ _ rfl)))); (focus simp [Value.oneCell']); (focus omega); (focus omega); (focus first | omega | (simp; omega)); (intro g cap w5 hown1 hgrow1 hat1 hlt1); (have rk5 : RK w2 g16 #[.int .i64 width, .int .i32 0, .int .i64 0, .int .u64 x1, .int .i64 x2, .int .u64 y1, .int .u64 y2, .int .u64 y3, .int .u64 y4] w5 := by (refine RK.grown (B := w2.heap.size) (e := 57) (s := 2) (n := k) (xs := c2 (ps.take k)) ?_ ?_ (by decide) (Nat.le_refl _) hgrow1 <;> (repeat' (first | (with_reducible exact hrk) | (with_reducible exact o12) | (with_reducible exact o13) | (with_reducible exact o13w) | (with_reducible exact rk5) | (with_reducible refine RK.drew ?_) | (with_reducible refine RK.alloc ?_ _) | (with_reducible refine World.ownsRow.alloc ?_ _) | (with_reducible refine World.ownsRow.drew ?_))))); (first | ((refine (have nb60 : Blk w5 (w4.heap.size + 1) 60 #[.int .u64 y1, .int .u64 y2, .int .u64 y3, .int .u64 y4] := ?_; ?_)); (focus (refine blk_far_ty (B := w2.heap.size) (e := 57) (s := 2) (n := k) (xs := c2 (ps.take k)) ?_ ?_ (by decide) hgrow1; (focus (with_reducible refine Blk.drew ?_; refine Blk.new _ _ ?_; simp; done)); (focus ((repeat' (first | (with_reducible exact o12) | (with_reducible refine World.ownsRow.alloc ?_ _) | (with_reducible refine World.ownsRow.drew ?_))); done))))) | ((refine (have nb60 : Blk w5 w4.heap.size 60 #[.int .u64 y1, .int .u64 y2, .int .u64 y3, .int .u64 y4] := ?_; ?_)); (focus (refine blk_far_ty (B := w2.heap.size) (e := 57) (s := 2) (n := k) (xs := c2 (ps.take k)) ?_ ?_ (by decide) hgrow1; (focus (with_reducible refine Blk.drew ?_; with_reducible refine Blk.alloc ?_ _; refine Blk.new _ _ ?_; rfl; done)); (focus ((repeat' (first | (with_reducible exact o12) | (with_reducible refine World.ownsRow.alloc ?_ _) | (with_reducible refine World.ownsRow.drew ?_))); done))))) | skip); (have hle5 : w2.heap.size ≤ w5.heap.size := rk5.2.2.size); (have o13w : w5.ownsRow w2.heap.size 60 4 u13 k (c4 (qs.take k)) := by (refine own_far_ty (e := 60) (B' := w2.heap.size) (e' := 57) (s' := 2) (n' := k) (xs' := c2 (ps.take k)) ?_ ?_ (by decide) hgrow1 <;> (repeat' (first | (with_reducible exact hrk) | (with_reducible exact o12) | (with_reducible exact o13) | (with_reducible exact o13w) | (with_reducible exact rk5) | (with_reducible refine RK.drew ?_) | (with_reducible refine RK.alloc ?_ _) | (with_reducible refine World.ownsRow.alloc ?_ _) | (with_reducible refine World.ownsRow.drew ?_))))); (have tok2 : True := trivial); clear tok1)
          | (have _t := tok2; refine step_append_lies _ ?_ (.tmp 49) (.tmp 52) 75 ?_ w2.heap.size 60 j0 _ 4 32 Try.underlying75 hj0 hy0 hy1 hy2 rfl ?_ u13 k (c4 (qs.take k)) ?_ ?_ ⟨w5.heap.size, 0, none⟩ 1 1 [.int .u64 y1, .int .u64 y2, .int .u64 y3, .int .u64 y4] ?_ ?_ ?_ ?_ ?_ hk63 ?_ ?_ _ rfl ?_; (focus rfl); (focus rfl); (focus omega); (focus rfl); (focus (repeat' (first | (with_reducible exact o13) | (with_reducible refine World.ownsRow.alloc ?_ _) | (with_reducible refine World.ownsRow.drew ?_) | (with_reducible exact o13w)))); (focus rfl); (focus rfl); (focus (first | exact World.news_of_block nb60 | exact World.news_of_block (heap_alloc_new _ _))); (focus simp [Value.oneCell']); (focus omega); (focus omega); (focus first | omega | (simp; omega)); (intro g' cap' w6 hown2 hgrow2 hat2 hlt2); (have rk6 : RK w2 g16 #[.int .i64 width, .int .i32 0, .int .i64 0, .int .u64 x1, .int .i64 x2, .int .u64 y1, .int .u64 y2, .int .u64 y3, .int .u64 y4] w6 := by (refine RK.grown (B := w2.heap.size) (e := 60) (s := 4) (n := k) (xs := c4 (qs.take k)) ?_ ?_ (by decide) (Nat.le_refl _) hgrow2 <;> (repeat' (first | (with_reducible exact hrk) | (with_reducible exact o12) | (with_reducible exact o13) | (with_reducible exact o13w) | (with_reducible exact rk5) | (with_reducible refine RK.drew ?_) | (with_reducible refine RK.alloc ?_ _) | (with_reducible refine World.ownsRow.alloc ?_ _) | (with_reducible refine World.ownsRow.drew ?_))))))
          | (have _t := tok2; refine step_append_lies _ ?_ (.tmp 49) (.tmp 52) 75 ?_ w2.heap.size 60 j0 _ 4 32 Try.underlying75 hj0 hy0 hy1 hy2 rfl ?_ u13 k (c4 (qs.take k)) ?_ ?_ ⟨w4.heap.size + 1, 0, none⟩ 1 1 [.int .u64 y1, .int .u64 y2, .int .u64 y3, .int .u64 y4] ?_ ?_ ?_ ?_ ?_ hk63 ?_ ?_ _ rfl ?_; (focus rfl); (focus rfl); (focus omega); (focus rfl); (focus (repeat' (first | (with_reducible exact o13) | (with_reducible refine World.ownsRow.alloc ?_ _) | (with_reducible refine World.ownsRow.drew ?_) | (with_reducible exact o13w)))); (focus rfl); (focus rfl); (focus (first | exact World.news_of_block nb60 | exact World.news_of_block (heap_alloc_new _ _))); (focus simp [Value.oneCell']); (focus omega); (focus omega); (focus first | omega | (simp; omega)); (intro g' cap' w6 hown2 hgrow2 hat2 hlt2); (have rk6 : RK w2 g16 #[.int .i64 width, .int .i32 0, .int .i64 0, .int .u64 x1, .int .i64 x2, .int .u64 y1, .int .u64 y2, .int .u64 y3, .int .u64 y4] w6 := by (refine RK.grown (B := w2.heap.size) (e := 60) (s := 4) (n := k) (xs := c4 (qs.take k)) ?_ ?_ (by decide) (Nat.le_refl _) hgrow2 <;> (repeat' (first | (with_reducible exact hrk) | (with_reducible exact o12) | (with_reducible exact o13) | (with_reducible exact o13w) | (with_reducible exact rk5) | (with_reducible refine RK.drew ?_) | (with_reducible refine RK.alloc ?_ _) | (with_reducible refine World.ownsRow.alloc ?_ _) | (with_reducible refine World.ownsRow.drew ?_))))))
          | (have _t := tok2; refine step_append_lies _ ?_ (.tmp 49) (.tmp 52) 75 ?_ w2.heap.size 60 j0 _ 4 32 Try.underlying75 hj0 hy0 hy1 hy2 rfl ?_ u13 k (c4 (qs.take k)) ?_ ?_ ⟨w4.heap.size, 0, none⟩ 1 1 [.int .u64 y1, .int .u64 y2, .int .u64 y3, .int .u64 y4] ?_ ?_ ?_ ?_ ?_ hk63 ?_ ?_ _ rfl ?_; (focus rfl); (focus rfl); (focus omega); (focus rfl); (focus (repeat' (first | (with_reducible exact o13) | (with_reducible refine World.ownsRow.alloc ?_ _) | (with_reducible refine World.ownsRow.drew ?_) | (with_reducible exact o13w)))); (focus rfl); (focus rfl); (focus (first | exact World.news_of_block nb60 | exact World.news_of_block (heap_alloc_new _ _))); (focus simp [Value.oneCell']); (focus omega); (focus omega); (focus first | omega | (simp; omega)); (intro g' cap' w6 hown2 hgrow2 hat2 hlt2); (have rk6 : RK w2 g16 #[.int .i64 width, .int .i32 0, .int .i64 0, .int .u64 x1, .int .i64 x2, .int .u64 y1, .int .u64 y2, .int .u64 y3, .int .u64 y4] w6 := by (refine RK.grown (B := w2.heap.size) (e := 60) (s := 4) (n := k) (xs := c4 (qs.take k)) ?_ ?_ (by decide) (Nat.le_refl _) hgrow2 <;> (repeat' (first | (with_reducible exact hrk) | (with_reducible exact o12) | (with_reducible exact o13) | (with_reducible exact o13w) | (with_reducible exact rk5) | (with_reducible refine RK.drew ?_) | (with_reducible refine RK.alloc ?_ _) | (with_reducible refine World.ownsRow.alloc ?_ _) | (with_reducible refine World.ownsRow.drew ?_)))))))
      all_goals
        have hfin57 : w6.ownsRow w2.heap.size 57 2 (.slice (some ⟨g, 0, none⟩) (k + 1) cap) (k + 1) (c2 (ps.take (k + 1))) := by
          rw [unhide HC2]
          refine own_far_ty (e := 57) (B' := w2.heap.size) (e' := 60) (s' := 4) (n' := k) (xs' := c4 (qs.take k)) ?_ ?_ (by decide) hgrow2 <;> (repeat' (first | (with_reducible exact hown1) | (with_reducible exact o13w) | (with_reducible refine World.ownsRow.alloc ?_ _) | (with_reducible refine World.ownsRow.drew ?_)))
        rw [← unhide HC4] at hown2
        have hr := hide (show LRel w2 ps qs (.slice (some ⟨g, 0, none⟩) (k + 1) cap) (.slice (some ⟨g', 0, none⟩) (k + 1) cap') (.int .i64 ((k : Int) + 1)) w6 from ⟨k + 1, by rw [unhide HPS]; omega, by simp, hfin57, hown2, rk6.2.2⟩)
        clear hfin57 hown2 hown1 hgrow1 hgrow2 rk5 rk6 o13w o12 o13 hS6 e3 e4 e5 e6 e7 e8
        go_wp2_with fail
        exact ⟨unhide hr, by simp [intOf]; omega⟩
    · obtain rfl : k = vs.length := by omega
      have hk2 : ps.take vs.length = ps := List.take_of_length_le (by rw [unhide HPS]; omega)
      have hk4 : qs.take vs.length = qs := List.take_of_length_le (by rw [unhide HQS]; omega)
      rw [hk2] at o12
      rw [hk4] at o13
      have hkd : KDm w g8 w2.heap.size vs.length #[.int .i64 width, .int .i32 0, .int .i64 0, .int .u64 p1, .int .i64 p2, .int .u64 q1, .int .u64 q2, .int .u64 q3, .int .u64 q4] u12 u13 ps qs wr :=
        ⟨(unhide K8).below hb, o12, o13, ⟨_, (unhide K0).below hb⟩, ⟨_, (unhide K1).below hb⟩, below_tr (unhide HB2) hb (unhide HB2).size⟩
      have hN2 := hide (fun (W : World) (h : KDm w g8 w2.heap.size vs.length #[.int .i64 width, .int .i32 0, .int .i64 0, .int .u64 p1, .int .i64 p2, .int .u64 q1, .int .u64 q2, .int .u64 q3, .int .u64 q4] u12 u13 ps qs W) => own_n2 h.2.1 (unhide HPS) (by omega))
      have hN4 := hide (fun (W : World) (h : KDm w g8 w2.heap.size vs.length #[.int .i64 width, .int .i32 0, .int .i64 0, .int .u64 p1, .int .i64 p2, .int .u64 q1, .int .u64 q2, .int .u64 q3, .int .u64 q4] u12 u13 ps qs W) => own_n4 h.2.2.1 (unhide HQS) (by omega))
      have hS6 := hide (fun (W : World) (h : KDm w g8 w2.heap.size vs.length #[.int .i64 width, .int .i32 0, .int .i64 0, .int .u64 p1, .int .i64 p2, .int .u64 q1, .int .u64 q2, .int .u64 q3, .int .u64 q4] u12 u13 ps qs W) => (show W.cell? ⟨g8, 3, none⟩ = some (.int .u64 p1) ∧ W.cell? ⟨g8, 4, none⟩ = some (.int .i64 p2) ∧ W.cell? ⟨g8, 5, none⟩ = some (.int .u64 q1) ∧ W.cell? ⟨g8, 6, none⟩ = some (.int .u64 q2) ∧ W.cell? ⟨g8, 7, none⟩ = some (.int .u64 q3) ∧ W.cell? ⟨g8, 8, none⟩ = some (.int .u64 q4) ∧ KDm w g8 w2.heap.size vs.length #[.int .i64 width, .int .i32 0, .int .i64 0, .int .u64 p1, .int .i64 p2, .int .u64 q1, .int .u64 q2, .int .u64 q3, .int .u64 q4] u12 u13 ps qs W from
        ⟨by have := h.1.cell 3; simpa using this, by have := h.1.cell 4; simpa using this, by have := h.1.cell 5; simpa using this, by have := h.1.cell 6; simpa using this, by have := h.1.cell 7; simpa using this, by have := h.1.cell 8; simpa using this, h⟩))
      obtain ⟨e3, e4, e5, e6, e7, e8, hkd0⟩ := (unhide hS6) _ hkd
      clear o12 o13 hk2 hk4 hb
      cases low
      case true =>
        go_upto_region 16 with (fail)
        go_region_held3 (fun W => W.cell? ⟨g8, 3, none⟩ = some (.int .u64 p1) ∧ W.cell? ⟨g8, 4, none⟩ = some (.int .i64 p2) ∧ W.cell? ⟨g8, 5, none⟩ = some (.int .u64 q1) ∧ W.cell? ⟨g8, 6, none⟩ = some (.int .u64 q2) ∧ W.cell? ⟨g8, 7, none⟩ = some (.int .u64 q3) ∧ W.cell? ⟨g8, 8, none⟩ = some (.int .u64 q4) ∧ KDm w g8 w2.heap.size vs.length #[.int .i64 width, .int .i32 0, .int .i64 0, .int .u64 p1, .int .i64 p2, .int .u64 q1, .int .u64 q2, .int .u64 q3, .int .u64 q4] u12 u13 ps qs W)
          ((refine (unhide hS6) _ ?_; (repeat' (first | (with_reducible assumption) | (with_reducible refine KDm.drew ?_) | (with_reducible refine KDm.set9 ?_ _) | (with_reducible refine KDm.set8 ?_ _)))))
          (first
            | (go_at_call 39; (with_reducible refine (min128_any _ _ _ _ ps ((unhide hN2) _ (by go_split_ands; assumption))).mono ?_); rintro e wa ⟨rfl, hba⟩; have kda := KDm.below (by go_split_ands; assumption) hba)
            | (go_at_call 40; (with_reducible refine (min256_any _ _ _ _ _ _ qs ((unhide hN4) _ kda)).mono ?_); rintro e wb ⟨rfl, hbb⟩; have kdb := KDm.below kda hbb)
            | (go_at_call 33; (with_reducible refine ((unhide hW) _).mono ?_); rintro e w5 ⟨x, rfl, hx, hb5, hnew⟩; have kd5 := KDm.below kdb hb5; obtain ⟨A5, c5', rfl, _⟩ := id hx; obtain ⟨rx, hrx⟩ := kd5.2.2.2.1; obtain ⟨ry, hry⟩ := kd5.2.2.2.2.1; obtain ⟨zc0, zf0⟩ := blk_oneF hrx; obtain ⟨zc1, zf1⟩ := blk_oneF hry; have hfin := hide (pun_fin hx hrx hry kd5.2.2.2.2.2 hnew (kdb.2.2.2.2.1.elim fun _ h => h.lt)); have hz01 := hide (blk_one0 hrx hry)))
        clear hN2 hN4 hS6 kda kdb kd5 hrx hry zc0 zf0 zc1 zf1 hkd hkd0 hx e3 e4 e5 e6 e7 e8
        go_wp2_with fail
        have HF := hide (unhide hfin)
        refine leaves_cons (f := 23) (args := #[.pointer (some ⟨w.heap.size, 0, none⟩), .pointer (some ⟨w.heap.size + 1, 0, none⟩)]) (by simp) (by simp [go_sem]) ?_
        refine (idle23 ⟨w.heap.size, 0, none⟩ ⟨w.heap.size + 1, 0, none⟩ _).mono ?_
        rintro e u' w'' ⟨rfl, rfl, rfl⟩
        refine ⟨.tuple #[.slice A5 res.length c5', .bool true], ?_, unhide HF⟩
        obtain ⟨z1, z2⟩ := (unhide hz01) (.slice A5 res.length c5') (.bool true)
        simp [settle, results, Try.results15, go_sem, z1, z2]
      case false =>
        go_upto_region 17 with (fail)
        go_region_held3 (fun W => W.cell? ⟨g8, 3, none⟩ = some (.int .u64 p1) ∧ W.cell? ⟨g8, 4, none⟩ = some (.int .i64 p2) ∧ W.cell? ⟨g8, 5, none⟩ = some (.int .u64 q1) ∧ W.cell? ⟨g8, 6, none⟩ = some (.int .u64 q2) ∧ W.cell? ⟨g8, 7, none⟩ = some (.int .u64 q3) ∧ W.cell? ⟨g8, 8, none⟩ = some (.int .u64 q4) ∧ KDm w g8 w2.heap.size vs.length #[.int .i64 width, .int .i32 0, .int .i64 0, .int .u64 p1, .int .i64 p2, .int .u64 q1, .int .u64 q2, .int .u64 q3, .int .u64 q4] u12 u13 ps qs W)
          ((refine (unhide hS6) _ ?_; (repeat' (first | (with_reducible assumption) | (with_reducible refine KDm.drew ?_) | (with_reducible refine KDm.set9 ?_ _) | (with_reducible refine KDm.set8 ?_ _)))))
          (first
            | (go_at_call 41; (with_reducible refine (max128_any _ _ _ _ ps ((unhide hN2) _ (by go_split_ands; assumption))).mono ?_); rintro e wa ⟨rfl, hba⟩; have kda := KDm.below (by go_split_ands; assumption) hba)
            | (go_at_call 42; (with_reducible refine (max256_any _ _ _ _ _ _ qs ((unhide hN4) _ kda)).mono ?_); rintro e wb ⟨rfl, hbb⟩; have kdb := KDm.below kda hbb)
            | (go_at_call 33; (with_reducible refine ((unhide hW) _).mono ?_); rintro e w5 ⟨x, rfl, hx, hb5, hnew⟩; have kd5 := KDm.below kdb hb5; obtain ⟨A5, c5', rfl, _⟩ := id hx; obtain ⟨rx, hrx⟩ := kd5.2.2.2.1; obtain ⟨ry, hry⟩ := kd5.2.2.2.2.1; obtain ⟨zc0, zf0⟩ := blk_oneF hrx; obtain ⟨zc1, zf1⟩ := blk_oneF hry; have hfin := hide (pun_fin hx hrx hry kd5.2.2.2.2.2 hnew (kdb.2.2.2.2.1.elim fun _ h => h.lt)); have hz01 := hide (blk_one0 hrx hry)))
        clear hN2 hN4 hS6 kda kdb kd5 hrx hry zc0 zf0 zc1 zf1 hkd hkd0 hx e3 e4 e5 e6 e7 e8
        go_wp2_with fail
        have HF := hide (unhide hfin)
        refine leaves_cons (f := 23) (args := #[.pointer (some ⟨w.heap.size, 0, none⟩), .pointer (some ⟨w.heap.size + 1, 0, none⟩)]) (by simp) (by simp [go_sem]) ?_
        refine (idle23 ⟨w.heap.size, 0, none⟩ ⟨w.heap.size + 1, 0, none⟩ _).mono ?_
        rintro e u' w'' ⟨rfl, rfl, rfl⟩
        refine ⟨.tuple #[.slice A5 res.length c5', .bool true], ?_, unhide HF⟩
        obtain ⟨z1, z2⟩ := (unhide hz01) (.slice A5 res.length c5') (.bool true)
        simp [settle, results, Try.results15, go_sem, z1, z2]
def mstL (low : Bool) (m x : List Int) : List Int := if (if low then decide (sv x < sv m) else decide (sv m < sv x)) then x else m
def mstZ (low : Bool) (m x : Int) : Int := if (if low then decide (x < m) else decide (m < x)) then x else m
def pr2 (l : List Int) : Int × Int := (l.getD 0 0, wrap64 (l.getD 1 0))
def pr4 (l : List Int) : Int × Int × Int × Int := (l.getD 0 0, l.getD 1 0, l.getD 2 0, l.getD 3 0)
def Gd (n : Nat) (l : List Int) : Prop := l.length = n ∧ Sm64 l
theorem gd2 {l : List Int} (h : Gd 2 l) : ∃ x y, l = [x, y] ∧ 0 ≤ x ∧ x < 18446744073709551616 ∧ 0 ≤ y ∧ y < 18446744073709551616 := by
  match l, h with
  | [x, y], h => exact ⟨x, y, rfl, (h.2 x (by simp)).1, (h.2 x (by simp)).2, (h.2 y (by simp)).1, (h.2 y (by simp)).2⟩
theorem gd4 {l : List Int} (h : Gd 4 l) : ∃ x y z u, l = [x, y, z, u] ∧ (0 ≤ x ∧ x < 18446744073709551616) ∧ (0 ≤ y ∧ y < 18446744073709551616) ∧ (0 ≤ z ∧ z < 18446744073709551616) ∧ (0 ≤ u ∧ u < 18446744073709551616) := by
  match l, h with
  | [x, y, z, u], h => exact ⟨x, y, z, u, rfl, h.2 x (by simp), h.2 y (by simp), h.2 z (by simp), h.2 u (by simp)⟩
theorem sv2_eq (x y : Int) (h1 : 0 ≤ y) (h2 : y < 18446744073709551616) : sv [x, y] = x + 18446744073709551616 * wrap64 y := by
  unfold sv uv uv uv wrap64; simp; split <;> omega
theorem lex_lt (M x x' y y' : Int) (hM : 0 < M) (h0 : 0 ≤ x) (h1 : x < M) (h2 : 0 ≤ x') (h3 : x' < M) : x + M * y < x' + M * y' ↔ y < y' ∨ (y = y' ∧ x < x') := by
  constructor
  · intro h
    rcases Int.lt_trichotomy y y' with hlt | heq | hgt
    · exact .inl hlt
    · subst heq; exact .inr ⟨rfl, by omega⟩
    · have h4 : M * (y' + 1) ≤ M * y := Int.mul_le_mul_of_nonneg_left (by omega) (by omega)
      rw [Int.mul_add, Int.mul_one] at h4
      omega
  · rintro (h | ⟨rfl, h⟩)
    · have h4 : M * (y + 1) ≤ M * y' := Int.mul_le_mul_of_nonneg_left (by omega) (by omega)
      rw [Int.mul_add, Int.mul_one] at h4
      omega
    · omega
theorem lt2_sv {a b : List Int} (ha : Gd 2 a) (hb : Gd 2 b) : lt128 (pr2 a).1 (pr2 a).2 (pr2 b).1 (pr2 b).2 = decide (sv a < sv b) := by
  obtain ⟨x, y, rfl, h1, h2, h3, h4⟩ := gd2 ha
  obtain ⟨x', y', rfl, h5, h6, h7, h8⟩ := gd2 hb
  rw [sv2_eq x y h3 h4, sv2_eq x' y' h7 h8]
  have := lex_lt 18446744073709551616 x x' (wrap64 y) (wrap64 y') (by decide) h1 h2 h5 h6
  rw [Bool.eq_iff_iff, decide_eq_true_iff, this]
  unfold lt128 pr2
  simp only [List.getD_cons_zero, List.getD_cons_succ]
  simp
theorem sv4_eq (x y z u : Int) (h1 : 0 ≤ u) (h2 : u < 18446744073709551616) : sv [x, y, z, u] = x + 18446744073709551616 * (y + 18446744073709551616 * (z + 18446744073709551616 * wrap64 u)) := by
  unfold sv uv uv uv uv uv wrap64; simp; split <;> omega
theorem lt4_sv {a b : List Int} (ha : Gd 4 a) (hb : Gd 4 b) : lt256 (pr4 a).1 (pr4 a).2.1 (pr4 a).2.2.1 (pr4 a).2.2.2 (pr4 b).1 (pr4 b).2.1 (pr4 b).2.2.1 (pr4 b).2.2.2 = decide (sv a < sv b) := by
  obtain ⟨x, y, z, u, rfl, ⟨h1, h2⟩, ⟨h3, h4⟩, ⟨h5, h6⟩, ⟨h7, h8⟩⟩ := gd4 ha
  obtain ⟨x', y', z', u', rfl, ⟨g1, g2⟩, ⟨g3, g4⟩, ⟨g5, g6⟩, ⟨g7, g8⟩⟩ := gd4 hb
  rw [sv4_eq x y z u h7 h8, sv4_eq x' y' z' u' g7 g8]
  have k1 := lex_lt 18446744073709551616 x x' (y + 18446744073709551616 * (z + 18446744073709551616 * wrap64 u)) (y' + 18446744073709551616 * (z' + 18446744073709551616 * wrap64 u')) (by decide) h1 h2 g1 g2
  have k2 := lex_lt 18446744073709551616 y y' (z + 18446744073709551616 * wrap64 u) (z' + 18446744073709551616 * wrap64 u') (by decide) h3 h4 g3 g4
  have k3 := lex_lt 18446744073709551616 z z' (wrap64 u) (wrap64 u') (by decide) h5 h6 g5 g6
  have e3 : z + 18446744073709551616 * wrap64 u = z' + 18446744073709551616 * wrap64 u' ↔ z = z' ∧ u = u' := by unfold wrap64; constructor <;> intro h <;> omega
  have e2 : y + 18446744073709551616 * (z + 18446744073709551616 * wrap64 u) = y' + 18446744073709551616 * (z' + 18446744073709551616 * wrap64 u') ↔ y = y' ∧ z = z' ∧ u = u' := by
    constructor
    · intro h
      have h9 : y = y' ∧ z + 18446744073709551616 * wrap64 u = z' + 18446744073709551616 * wrap64 u' := by
        generalize z + 18446744073709551616 * wrap64 u = p at *
        generalize z' + 18446744073709551616 * wrap64 u' = q at *
        omega
      exact ⟨h9.1, e3.1 h9.2⟩
    · rintro ⟨rfl, rfl, rfl⟩; rfl
  have eu : wrap64 u = wrap64 u' ↔ u = u' := by unfold wrap64; constructor <;> intro h <;> omega
  have key : (y + 18446744073709551616 * (z + 18446744073709551616 * wrap64 u) < y' + 18446744073709551616 * (z' + 18446744073709551616 * wrap64 u') ∨ y + 18446744073709551616 * (z + 18446744073709551616 * wrap64 u) = y' + 18446744073709551616 * (z' + 18446744073709551616 * wrap64 u') ∧ x < x') ↔ (if u ≠ u' then wrap64 u < wrap64 u' else if z ≠ z' then z < z' else if y ≠ y' then y < y' else x < x') := by
    rw [k2, k3, e2, e3]
    by_cases c1 : u = u'
    · subst c1
      by_cases c2 : z = z'
      · subst c2
        by_cases c3 : y = y'
        · subst c3; simp
        · simp [c3]
      · simp [c2]
    · have : wrap64 u ≠ wrap64 u' := fun h => c1 (eu.1 h)
      simp [c1, this]
  rw [Bool.eq_iff_iff, decide_eq_true_iff, k1, key]
  unfold lt256 pr4
  simp only [List.getD_cons_zero, List.getD_cons_succ]
  by_cases c1 : u = u'
  · by_cases c2 : z = z'
    · by_cases c3 : y = y'
      · simp [c1, c2, c3]
      · simp [c1, c2, c3]
    · simp [c1, c2]
  · simp [c1]
theorem mstL_gd {n : Nat} {low : Bool} {m x : List Int} (hm : Gd n m) (hx : Gd n x) : Gd n (mstL low m x) := by unfold mstL; (repeat' split) <;> assumption
theorem fold2 (low : Bool) : ∀ (ls : List (List Int)) (l : List Int), Gd 2 l → (∀ x ∈ ls, Gd 2 x) → (ls.map pr2).foldl (mst2 low) (pr2 l) = pr2 (ls.foldl (mstL low) l) ∧ Gd 2 (ls.foldl (mstL low) l)
  | [], l, h, _ => ⟨rfl, h⟩
  | x :: ls, l, h, hs => by
    have hx := hs x (by simp)
    have e : mst2 low (pr2 l) (pr2 x) = pr2 (mstL low l x) := by
      unfold mst2 mstL
      rw [lt2_sv hx h, lt2_sv h hx]
      (repeat' split) <;> rfl
    have := fold2 low ls (mstL low l x) (mstL_gd h hx) (fun y hy => hs y (by simp [hy]))
    simp only [List.map_cons, List.foldl_cons]
    rw [e]; exact this
theorem fold4 (low : Bool) : ∀ (ls : List (List Int)) (l : List Int), Gd 4 l → (∀ x ∈ ls, Gd 4 x) → (ls.map pr4).foldl (mst4 low) (pr4 l) = pr4 (ls.foldl (mstL low) l) ∧ Gd 4 (ls.foldl (mstL low) l)
  | [], l, h, _ => ⟨rfl, h⟩
  | x :: ls, l, h, hs => by
    have hx := hs x (by simp)
    have e : mst4 low (pr4 l) (pr4 x) = pr4 (mstL low l x) := by
      unfold mst4 mstL
      rw [lt4_sv hx h, lt4_sv h hx]
      (repeat' split) <;> rfl
    have := fold4 low ls (mstL low l x) (mstL_gd h hx) (fun y hy => hs y (by simp [hy]))
    simp only [List.map_cons, List.foldl_cons]
    rw [e]; exact this
theorem foldZ (low : Bool) : ∀ (ls : List (List Int)) (l : List Int), sv (ls.foldl (mstL low) l) = (ls.map sv).foldl (mstZ low) (sv l)
  | [], l => rfl
  | x :: ls, l => by
    simp only [List.map_cons, List.foldl_cons]
    rw [foldZ low ls]
    congr 1
    unfold mstL mstZ
    (repeat' split) <;> rfl
theorem dup_get (ls : List (List Int)) (k : Nat) (z : Int × Int × Int × Int) : (ls.map fun _ => z).getD k z = z := by
  rw [List.getD_eq_getElem?_getD, List.getElem?_map]
  cases ls[k]? <;> rfl
theorem dup_get2 (ls : List (List Int)) (k : Nat) (z : Int × Int) : (ls.map fun _ => z).getD k z = z := by
  rw [List.getD_eq_getElem?_getD, List.getElem?_map]
  cases ls[k]? <;> rfl
theorem map_get {β : Type} (f : List Int → β) (ls : List (List Int)) (k : Nat) (d : β) (h : k < ls.length) : (ls.map f).getD k d = f ls[k] := by
  rw [List.getD_eq_getElem?_getD, List.getElem?_map, List.getElem?_eq_getElem h]; rfl
/-- DecMost, of words that are decimals of 128 or 256 bits. -/
theorem decMost_128 (w : World) (v : Value) (low : Bool) (R : Value) (vs : List Value) (l : List Int) (ls : List (List Int)) (h : Rd .u64 w v l) (hl : Gd 2 l) (hR : Vs w R vs) (hn : vs.length ≤ 20) (hls : ls.length = vs.length)
    (hv : ∀ k (hk : k < vs.length), Rd .u64 w vs[k] (ls.getD k []) ∧ Gd 2 (ls.getD k [])) :
    Calls Try.prog 15 #[.int .i64 128, .bool low, v, R] w (PUn w (ls.foldl (mstL low) l)) := by
  have hmem : ∀ x ∈ ls, Gd 2 x := fun x hx => by
    obtain ⟨k, hk, rfl⟩ := List.getElem_of_mem hx
    have := (hv k (by omega)).2
    rwa [List.getD_eq_getElem?_getD, List.getElem?_eq_getElem hk] at this
  obtain ⟨hf, hg⟩ := fold2 low ls l hl hmem
  refine decMost_of w v 128 low R vs (pr2 l) (0, 0, 0, 0) (ls.map pr2) (ls.map fun _ => (0, 0, 0, 0)) (by omega) hR hn (by simpa using hls) (by simpa using hls) _ ?_ ?_ ?_
  · intro W hb
    obtain ⟨x, y, rfl, _⟩ := gd2 hl
    exact hd_128 w v x y h W hb
  · intro k u hu W hb
    have hk : k < vs.length := (List.getElem?_eq_some_iff.1 hu).1
    obtain ⟨h1, h2⟩ := hv k hk
    have hu' : vs[k] = u := (List.getElem?_eq_some_iff.1 hu).2
    rw [hu'] at h1
    rw [map_get pr2 ls k _ (by omega), dup_get]
    rw [List.getD_eq_getElem?_getD, List.getElem?_eq_getElem (show k < ls.length by omega)] at h1 h2
    simp only [Option.getD_some] at h1 h2
    obtain ⟨x, y, e, _⟩ := gd2 h2
    rw [e] at h1 ⊢
    exact hd_128 w u x y h1 W hb
  · intro W
    rw [hf]
    obtain ⟨x, y, e, _, _, h3, h4⟩ := gd2 hg
    rw [e]
    have := words_128 W 0 0 x (wrap64 y) ((ls.map fun _ => ((0, 0, 0, 0) : Int × Int × Int × Int)).foldl (mst4 low) (0, 0, 0, 0)).1 ((ls.map fun _ => ((0, 0, 0, 0) : Int × Int × Int × Int)).foldl (mst4 low) (0, 0, 0, 0)).2.1 ((ls.map fun _ => ((0, 0, 0, 0) : Int × Int × Int × Int)).foldl (mst4 low) (0, 0, 0, 0)).2.2.1 ((ls.map fun _ => ((0, 0, 0, 0) : Int × Int × Int × Int)).foldl (mst4 low) (0, 0, 0, 0)).2.2.2
    rw [show IntKind.u64.wrap (wrap64 y) = y by rw [IntKind.wrap_u64]; unfold wrap64; omega] at this
    exact this
theorem decMost_256 (w : World) (v : Value) (low : Bool) (R : Value) (vs : List Value) (l : List Int) (ls : List (List Int)) (h : Rd .u64 w v l) (hl : Gd 4 l) (hR : Vs w R vs) (hn : vs.length ≤ 20) (hls : ls.length = vs.length)
    (hv : ∀ k (hk : k < vs.length), Rd .u64 w vs[k] (ls.getD k []) ∧ Gd 4 (ls.getD k [])) :
    Calls Try.prog 15 #[.int .i64 256, .bool low, v, R] w (PUn w (ls.foldl (mstL low) l)) := by
  have hmem : ∀ x ∈ ls, Gd 4 x := fun x hx => by
    obtain ⟨k, hk, rfl⟩ := List.getElem_of_mem hx
    have := (hv k (by omega)).2
    rwa [List.getD_eq_getElem?_getD, List.getElem?_eq_getElem hk] at this
  obtain ⟨hf, hg⟩ := fold4 low ls l hl hmem
  have h00 : wrap64 0 = 0 := by unfold wrap64; omega
  refine decMost_of w v 256 low R vs (0, 0) (pr4 l) (ls.map fun _ => (0, 0)) (ls.map pr4) (by omega) hR hn (by simpa using hls) (by simpa using hls) _ ?_ ?_ ?_
  · intro W hb
    obtain ⟨x, y, z, u, rfl, _⟩ := gd4 hl
    have := hd_256 w v x y z u h W hb
    rw [h00] at this
    exact this
  · intro k u hu W hb
    have hk : k < vs.length := (List.getElem?_eq_some_iff.1 hu).1
    obtain ⟨h1, h2⟩ := hv k hk
    have hu' : vs[k] = u := (List.getElem?_eq_some_iff.1 hu).2
    rw [hu'] at h1
    rw [map_get pr4 ls k _ (by omega), dup_get2]
    rw [List.getD_eq_getElem?_getD, List.getElem?_eq_getElem (show k < ls.length by omega)] at h1 h2
    simp only [Option.getD_some] at h1 h2
    obtain ⟨x, y, z, t, e, _⟩ := gd4 h2
    rw [e] at h1 ⊢
    have := hd_256 w u x y z t h1 W hb
    rw [h00] at this
    exact this
  · intro W
    rw [hf]
    obtain ⟨x, y, z, t, e, _⟩ := gd4 hg
    rw [e]
    exact words_256 W 0 0 _ _ x y z t
/-- words, of whatever length. -/
def Ru (w : World) (u : Value) (l : List Int) : Prop := ∃ A c, u = .slice A l.length c ∧ l.length ≤ c ∧ Sl w w.heap.size A l.length (ivs .u64 l) ∧ Sm64 l ∧ l.length ≤ maxLen
theorem Ru.below {w w' : World} {u : Value} {l : List Int} (h : Ru w u l) (hb : Below w.heap.size w w') : Ru w' u l := by
  obtain ⟨A, c, e, h1, h2, h3⟩ := h
  exact ⟨A, c, e, h1, (h2.mod (Mod.of_below (S := []) hb) (by simp)).mono hb.size, h3⟩
theorem Ru.rd {w : World} {u : Value} {l : List Int} (h : Ru w u l) (hl : l.length ≤ 1000000) : Rd .u64 w u l := by
  obtain ⟨A, c, e, h1, h2, _⟩ := h
  exact ⟨A, c, e, h1, h2, hl⟩
theorem good_len {width : Int} {l : List Int} (h : good width l = true) : wIs width = true ∧ l.length = wN width := by
  unfold good at h
  simp only [Bool.and_eq_true, decide_eq_true_eq] at h
  exact h.1
theorem wN_le (width : Int) : wN width ≤ 4 := by unfold wN; split <;> (try split) <;> (try split) <;> omega
theorem dec_any (w : World) (u : Value) (width : Int) (l : List Int) (h : Ru w u l) : Calls Try.prog 9 #[.int .i64 width, u] w (PDc w width l) := by
  by_cases h1 : l.length ≤ 1000000
  · obtain ⟨_, _, _, _, _, h64, _⟩ := id h
    exact decimal_any w u width l (h.rd h1) h64
  · have hw := wN_le width
    obtain ⟨A, c, rfl, _⟩ := h
    cases hI : wIs width with
    | true => exact decimal_bad2 w A c width l hI (by omega)
    | false => exact decimal_bad1 w A _ c width l hI
theorem Vs.below {w w' : World} {R : Value} {vs : List Value} (h : Vs w R vs) (hb : Below w.heap.size w w') : Vs w' R vs := by
  obtain ⟨A, c, e, h1, h2⟩ := h
  exact ⟨A, c, e, h1, (h2.mod (Mod.of_below (S := []) hb) (by simp)).mono hb.size⟩
def PB (w : World) (e : Ending) (w' : World) : Prop := ∃ b, e = .returned (.bool b) ∧ w = w'
set_option maxRecDepth 100000 in
set_option maxHeartbeats 2000000 in
theorem zz_any (w : World) (R : Value) (vs : List Value) (hR : Vs w R vs) (hn : vs.length ≤ maxLen) (hs : ∀ k (hk : k < vs.length), ∃ A n c, vs[k] = .slice A n c ∧ n ≤ maxLen) :
    Calls Try.prog 14 #[R] w (PB w) := by
  have hm : maxLen = 9223372036854775807 := by decide
  obtain ⟨A, c, rfl, hc, hsl⟩ := hR
  have hP := hide (fun b => (show PB w (.returned (.bool b)) w from ⟨b, rfl, rfl⟩))
  by_cases h1 : 2147483647 < vs.length
  · clear hsl hs
    generalize vs.length = n at *
    go_enter Try.func14, Try.ntmps14
    go_wp2_with fail
    all_goals first | (go_ret; exact (unhide hP) _) | (exfalso; simp at *; omega)
  · have HS := hide hsl
    have HH := hide hs
    clear hsl hs
    go_enter Try.func14, Try.ntmps14
    go_wp2_with fail
    go_loop [10] (fun v => ∃ k : Nat, k ≤ vs.length ∧ v = .int .i64 (k : Int)) (fun v => vs.length - (intOf v).toNat)
    case atStart => exact ⟨0, by omega, rfl⟩
    case round =>
      obtain ⟨k, hk, rfl⟩ := hrel
      by_cases hlt : k < vs.length
      · obtain ⟨b, off, rfl, hbl, hcell⟩ := (unhide HS).2 (by omega)
        obtain ⟨A', n', c', he, hn'⟩ := (unhide HH) k hlt
        have y0 := hcell k _ (List.getElem?_eq_getElem hlt)
        rw [he] at y0
        clear he hcell
        by_cases h2 : 2147483647 < n'
        · go_wp2_with fail
          all_goals first | (go_ret; exact (unhide hP) _) | (exfalso; simp at *; omega)
        · go_wp2_with fail
          exact ⟨⟨k + 1, by omega, by simp⟩, by simp [intOf]; omega⟩
      · go_wp2_with fail
        go_ret
        exact (unhide hP) _
theorem most_awake (w : World) (u : Value) (h : Rd .u64 w u [1, 0]) : Calls Try.prog 15 #[.int .i64 128, .bool false, u, .slice none 0 0] w (PUn w [1, 0]) :=
  decMost_128 w u false (.slice none 0 0) [] [1, 0] [] h ⟨rfl, fun x hx => by simp at hx; omega⟩ ⟨none, 0, rfl, Nat.le_refl _, Sl.nil_ _ _ _⟩ (by simp) rfl (fun k hk => by simp at hk)
set_option maxRecDepth 100000 in
set_option maxHeartbeats 4000000 in
theorem lawM_bad (w : World) (v R : Value) (width : Int) (low : Bool) (l : List Int) (vs : List Value) (h : Ru w v l) (hR : Vs w R vs) (hn : vs.length ≤ maxLen) (hs : ∀ k (hk : k < vs.length), ∃ A n c, vs[k] = .slice A n c ∧ n ≤ maxLen) (hg : good width l = false) :
    Calls Try.prog 4 #[.int .i64 width, .bool low, v, R] w (POut w) := by
  have hD := hide (fun (W : World) (hb : Below w.heap.size w W) => dec_any W _ width l (h.below hb))
  unfold PDc at hD
  rw [hg] at hD
  have hZ := hide (fun (W : World) (hb : Below w.heap.size w W) => zz_any W R vs (hR.below hb) hn hs)
  have hP := hide (fun (w4 : World) (hb : Below w.heap.size w w4) o => pout_box hb o)
  have hP1 := hide (fun (w4 : World) (hb : Below w.heap.size w w4) => pout_mk hb)
  obtain ⟨A, c, rfl, hc, _, _, hml⟩ := h
  unfold maxLen at hml
  generalize l.length = n at *
  clear hs hg hR
  by_cases hbig : 2147483647 < n
  · go_enter Try.func4, Try.ntmps4
    go_wp2_with fail
    all_goals first | (go_ret; exact (unhide hP1) _ (Below.refl _ _)) | (exfalso; simp at *; omega)
  · go_enter Try.func4, Try.ntmps4
    go_wp2_with fail
    refine ((unhide hZ) _ (Below.refl _ _)).mono ?_
    rintro e w0 ⟨zb, rfl, rfl⟩
    cases zb
    case false =>
      go_wp2_with fail
      go_ret
      exact (unhide hP1) _ (Below.refl _ _)
    case true =>
      go_wp2_with (first
        | (go_at_call 7; (with_reducible refine (unit_any _).mono ?_); rintro e w1 ⟨u, rfl, hu, hb1⟩)
        | (go_at_call 15; (with_reducible refine (most_awake _ _ hu).mono ?_); rintro e w2 ⟨m, rfl, hm, hb2⟩; have hB2 := below_tr hb1 hb2 hb1.size)
        | (go_at_call 8; (with_reducible refine (same_any _ _ _ _ (hm.below hb1) hu).mono ?_); rintro e w3 ⟨rfl, hb3⟩; have hB3 := below_tr (below_tr hB2 hb1 hB2.size) hb3 (below_tr hB2 hb1 hB2.size).size)
        | (go_at_call 9; (with_reducible refine ((unhide hD) _ hB3).mono ?_); rintro e w4 ⟨s, A4, n4, c4, rfl, hx, hb4⟩; have hB4 := below_tr hB3 hb4 hB3.size))
      all_goals first | (go_ret; exact (unhide hP) _ hB4 _) | (exfalso; simp at *; omega)
def LM (w : World) (g12 : Nat) (width : Int) (low : Bool) (l : List Int) (ls : List (List Int)) (v60 : Value) (wr : World) : Prop :=
  ∃ k : Nat, k ≤ ls.length ∧ v60 = .int .i64 (k : Int) ∧ (∀ x ∈ ls.take k, good width x = true) ∧ (∃ s A n c, Blk wr g12 30 #[.bool s, .slice A n c] ∧ Wd wr (.agg #[.bool s, .slice A n c]) (((ls.take k).map sv).foldl (mstZ low) (sv l))) ∧ Below w.heap.size w wr
theorem takeZ (low : Bool) (l : List Int) (ls : List (List Int)) (k : Nat) (h : k < ls.length) : ((ls.take (k + 1)).map sv).foldl (mstZ low) (sv l) = mstZ low (((ls.take k).map sv).foldl (mstZ low) (sv l)) (sv (ls.getD k [])) := by
  rw [List.take_succ_eq_append_getElem h, List.map_append, List.foldl_append, List.getD_eq_getElem?_getD, List.getElem?_eq_getElem h]; rfl
theorem takeG (width : Int) (ls : List (List Int)) (k : Nat) (h : k < ls.length) (h1 : ∀ x ∈ ls.take k, good width x = true) (h2 : good width (ls.getD k []) = true) : ∀ x ∈ ls.take (k + 1), good width x = true := by
  intro x hx
  rw [List.take_succ_eq_append_getElem h, List.mem_append] at hx
  rcases hx with hx | hx
  · exact h1 x hx
  · rw [List.getD_eq_getElem?_getD, List.getElem?_eq_getElem h] at h2
    simp at hx; subst hx; exact h2
theorem cmp_gt {a b : Int} (h : b < a) : cmpI a b = 1 := by unfold cmpI; rw [if_neg (by omega), if_pos h]
theorem cmp_lt {a b : Int} (h : a < b) : cmpI a b = -1 := by unfold cmpI; rw [if_pos h]
theorem cmp_le {a b : Int} (h : ¬ b < a) : cmpI a b ≤ 0 := by unfold cmpI; split <;> (try split) <;> omega
theorem cmp_ge {a b : Int} (h : ¬ a < b) : 0 ≤ cmpI a b := by unfold cmpI; split <;> (try split) <;> omega
set_option maxRecDepth 100000 in
set_option maxHeartbeats 8000000 in
theorem lawM_good (w : World) (v R : Value) (width : Int) (low : Bool) (l : List Int) (vs : List Value) (ls : List (List Int)) (h : Ru w v l) (hR : Vs w R vs) (hn : vs.length ≤ maxLen) (hls : ls.length = vs.length) (hs : ∀ k (hk : k < vs.length), Ru w vs[k] (ls.getD k [])) (hg : good width l = true)
    (hmost : 128 ≤ width → vs.length ≤ 20 → (∀ x ∈ ls, good width x = true) → ∀ W, Below w.heap.size w W → Calls Try.prog 15 #[.int .i64 width, .bool low, v, R] W (PUn W (wrl width ((ls.map sv).foldl (mstZ low) (sv l))))) :
    Calls Try.prog 4 #[.int .i64 width, .bool low, v, R] w (POut w) := by
  have hD := hide (fun (W : World) (hb : Below w.heap.size w W) => dec_any W _ width l (h.below hb))
  unfold PDc at hD
  rw [hg] at hD
  have hZ := hide (fun (W : World) (hb : Below w.heap.size w W) => zz_any W R vs (hR.below hb) hn (fun k hk => by obtain ⟨A, c, e, _, _, _, h5⟩ := hs k hk; exact ⟨A, _, c, e, h5⟩))
  have hDk := hide (fun k (hk : k < vs.length) (W : World) (hb : Below w.heap.size w W) => dec_any W _ width (ls.getD k []) ((hs k hk).below hb))
  unfold PDc at hDk
  have hP := hide (fun (w4 : World) (hb : Below w.heap.size w w4) o => pout_box hb o)
  have hP1 := hide (fun (w4 : World) (hb : Below w.heap.size w w4) => pout_mk hb)
  have hI := (good_len hg).1
  have hWr := hide (fun (W : World) (x : Value) (z : Int) (hx : Wd W x z) => pw2_of hx hI)
  have HM := hide hmost
  have HLS := hide hls
  obtain ⟨A, c, rfl, hc, _, _, hml⟩ := h
  obtain ⟨A', c', rfl, hc', hsl⟩ := hR
  have HS := hide hsl
  unfold maxLen at hml hn
  generalize hl0 : l.length = n at *
  clear hs hg hI hmost hls hsl hl0
  by_cases hbig : 2147483647 < n
  · go_enter Try.func4, Try.ntmps4
    go_wp2_with fail
    all_goals first | (go_ret; exact (unhide hP1) _ (Below.refl _ _)) | (exfalso; simp at *; omega)
  · by_cases hw : width < 128
    · go_enter Try.func4, Try.ntmps4
      go_wp2_with fail
      refine ((unhide hZ) _ (Below.refl _ _)).mono ?_
      rintro e w0 ⟨zb, rfl, rfl⟩
      cases zb
      case false =>
        go_wp2_with fail
        go_ret
        exact (unhide hP1) _ (Below.refl _ _)
      case true =>
        go_wp2_with (first
          | (go_at_call 7; (with_reducible refine (unit_any _).mono ?_); rintro e w1 ⟨u, rfl, hu, hb1⟩)
          | (go_at_call 15; (with_reducible refine (most_awake _ _ hu).mono ?_); rintro e w2 ⟨m, rfl, hm, hb2⟩; have hB2 := below_tr hb1 hb2 hb1.size)
          | (go_at_call 8; (with_reducible refine (same_any _ _ _ _ (hm.below hb1) hu).mono ?_); rintro e w3 ⟨rfl, hb3⟩; have hB3 := below_tr (below_tr hB2 hb1 hB2.size) hb3 (below_tr hB2 hb1 hB2.size).size)
          | (go_at_call 9; (with_reducible refine ((unhide hD) _ hB3).mono ?_); rintro e w4 ⟨s, A4, n4, c4, rfl, hx, hb4⟩; have hB4 := below_tr hB3 hb4 hB3.size))
        all_goals first | (go_ret; exact (unhide hP) _ hB4 _) | (exfalso; simp at *; omega)
    · by_cases h20 : 20 < vs.length
      · go_enter Try.func4, Try.ntmps4
        go_wp2_with fail
        refine ((unhide hZ) _ (Below.refl _ _)).mono ?_
        rintro e w0 ⟨zb, rfl, rfl⟩
        cases zb
        case false =>
          go_wp2_with fail
          go_ret
          exact (unhide hP1) _ (Below.refl _ _)
        case true =>
          go_wp2_with (first
            | (go_at_call 7; (with_reducible refine (unit_any _).mono ?_); rintro e w1 ⟨u, rfl, hu, hb1⟩)
            | (go_at_call 15; (with_reducible refine (most_awake _ _ hu).mono ?_); rintro e w2 ⟨m, rfl, hm, hb2⟩; have hB2 := below_tr hb1 hb2 hb1.size)
            | (go_at_call 8; (with_reducible refine (same_any _ _ _ _ (hm.below hb1) hu).mono ?_); rintro e w3 ⟨rfl, hb3⟩; have hB3 := below_tr (below_tr hB2 hb1 hB2.size) hb3 (below_tr hB2 hb1 hB2.size).size)
            | (go_at_call 9; (with_reducible refine ((unhide hD) _ hB3).mono ?_); rintro e w4 ⟨s, A4, n4, c4, rfl, hx, hb4⟩; have hB4 := below_tr hB3 hb4 hB3.size))
          all_goals first | (go_ret; exact (unhide hP) _ hB4 _) | (exfalso; simp at *; omega)
      · go_enter Try.func4, Try.ntmps4
        go_wp2_with fail
        refine ((unhide hZ) _ (Below.refl _ _)).mono ?_
        rintro e w0 ⟨zb, rfl, rfl⟩
        cases zb
        case false =>
          go_wp2_with fail
          go_ret
          exact (unhide hP1) _ (Below.refl _ _)
        case true =>
          go_wp2_with (first
            | (go_at_call 7; (with_reducible refine (unit_any _).mono ?_); rintro e w1 ⟨u, rfl, hu, hb1⟩)
            | (go_at_call 15; (with_reducible refine (most_awake _ _ hu).mono ?_); rintro e w2 ⟨m, rfl, hm, hb2⟩; have hB2 := below_tr hb1 hb2 hb1.size)
            | (go_at_call 8; (with_reducible refine (same_any _ _ _ _ (hm.below hb1) hu).mono ?_); rintro e w3 ⟨rfl, hb3⟩; have hB3 := below_tr (below_tr hB2 hb1 hB2.size) hb3 (below_tr hB2 hb1 hB2.size).size)
            | (go_at_call 9; (with_reducible refine ((unhide hD) _ hB3).mono ?_); rintro e w4 ⟨s, A4, n4, c4, rfl, hx, hb4⟩; have hB4 := below_tr hB3 hb4 hB3.size))
          have kb := Blk.new (w := w4) (g := w4.heap.size) 30 #[.bool s, .slice A4 n4 c4] rfl
          have hx5 := (hx (by first | rfl | trivial)).below ((Below.refl w4.heap.size w4).alloc (Nat.le_refl _) (.cells #[.bool s, .slice A4 n4 c4] 30))
          have hB5 := hB4.alloc hB4.size (.cells #[.bool s, .slice A4 n4 c4] 30)
          generalize hw5 : w4.alloc (.cells #[.bool s, .slice A4 n4 c4] 30) = w5 at *
          have hg12 : w.heap.size ≤ w4.heap.size := hB4.size
          generalize w4.heap.size = g12 at *
          have h00 := hide (show LM w g12 width low l ls (.int .i64 0) w5 from ⟨0, by omega, rfl, by simp, ⟨s, A4, n4, c4, kb, hx5⟩, hB5⟩)
          clear hw5 kb hx5 hB5 hB4 hx hb4 hm hu hb1 hB2 hb3 hB3 hb2
          go_loopw [60] (LM w g12 width low l ls) (fun v _ => vs.length - (intOf v).toNat)
          case atStart => exact unhide h00
          case round =>
            obtain ⟨k, hk, rfl, hgk, ⟨s5, A5, n5, c5, kb, hwd⟩, hb⟩ := hrel
            rw [unhide HLS] at hk
            by_cases hlt : k < vs.length
            · obtain ⟨b, off, rfl, hbl, hcell⟩ := (unhide HS).2 (by omega)
              have y0 := (hb.cell (p := ⟨b, off + k, none⟩) hbl).trans (hcell k _ (List.getElem?_eq_getElem hlt))
              have HDk := hide ((unhide hDk) k hlt wr hb)
              have HZN := hide (takeZ low l ls k (by rw [unhide HLS]; exact hlt))
              have HGN0 := hide (fun h => takeG width ls k (by rw [unhide HLS]; exact hlt) hgk h)
              clear hcell hDk hgk
              generalize vs[k] = u at *
              generalize ls.getD k [] = x at *
              cases hgx : good width x
              case false =>
                rw [hgx] at HDk
                have HB := hide hb
                obtain ⟨q0, q1, q2, q3, _⟩ := blk_facts kb
                clear hb kb hwd
                go_wp2_with fail
                refine (unhide HDk).mono ?_
                rintro e w6 ⟨s6, A6, n6, c6, rfl, _, hb6⟩
                have hB6 := hide ((unhide hP) _ (below_tr (unhide HB) hb6 (unhide HB).size))
                clear hb6
                go_wp2_with fail
                go_ret
                exact (unhide hB6) _
              case true =>
                have HGN := hide ((unhide HGN0) hgx)
                rw [hgx] at HDk
                have HB := hide hb
                have HKB := hide kb
                have HWD := hide hwd
                obtain ⟨q0, q1, q2, q3, _⟩ := blk_facts kb
                clear hb kb hwd hgx HGN0
                go_wp2_with fail
                refine (unhide HDk).mono ?_
                rintro e w6 ⟨s6, A6, n6, c6, rfl, hx, hb6⟩
                have k7 := Blk.new (w := w6) (g := w6.heap.size) 30 #[.bool s6, .slice A6 n6 c6] rfl
                have hx7 := (hx (by first | rfl | trivial)).below ((Below.refl w6.heap.size w6).alloc (Nat.le_refl _) (.cells #[.bool s6, .slice A6 n6 c6] 30))
                have hB6 := below_tr (unhide HB) hb6 (unhide HB).size
                have hB7 := hB6.alloc hB6.size (.cells #[.bool s6, .slice A6 n6 c6] 30)
                have kb7 := ((unhide HKB).below hb6).alloc (.cells #[.bool s6, .slice A6 n6 c6] 30)
                have hwd7 := ((unhide HWD).below hb6).below ((Below.refl w6.heap.size w6).alloc (Nat.le_refl _) (.cells #[.bool s6, .slice A6 n6 c6] 30))
                clear hx hb6 hB6
                go_upto_region 14 with (fail)
                generalize hw7 : w6.alloc (.cells #[.bool s6, .slice A6 n6 c6] 30) = w7 at *
                generalize w6.heap.size = g16 at *
                clear hw7
                obtain ⟨r0, r1, r2, r3, _⟩ := blk_facts kb7
                obtain ⟨t0, t1, t2, t3, _⟩ := blk_facts k7
                go_wp2_with fail
                generalize hzw : ((ls.take k).map sv).foldl (mstZ low) (sv l) = zw at *
                generalize hzx : sv x = zx at *
                clear hzw hzx q0 q1 q2 q3 r0 r1 r2 r3 t0 t1 t2 t3
                cases low
                case false =>
                  by_cases hz : zw < zx
                  · have hcc := cmp_gt hz
                    refine (WideCmp_any _ _ _ _ _ hx7 hwd7).mono ?_
                    rintro e w8 ⟨he, hb8⟩
                    rw [hcc] at he
                    subst he
                    have k12 := kb7.below hb8
                    have k16 := k7.below hb8
                    have hB8 := below_tr hB7 hb8 hB7.size
                    have hx8 := hx7.below hb8
                    have hx9 := (hx8.far k12.tyb (by decide) 0 (.bool s6)).far (k12.tyb.set _ _ _) (by decide) 1 (.slice A6 n6 c6)
                    have hz12 : Blk ((w8.setCell ⟨g12, 0, none⟩ (.bool s6)).setCell ⟨g12, 1, none⟩ (.slice A6 n6 c6)) g12 30 #[.bool s6, .slice A6 n6 c6] := by have := (k12.set 0 (.bool s6)).set 1 (.slice A6 n6 c6); simpa using this
                    have hr := hide (show LM w g12 width false l ls (.int .i64 ((k : Int) + 1)) ((w8.setCell ⟨g12, 0, none⟩ (.bool s6)).setCell ⟨g12, 1, none⟩ (.slice A6 n6 c6)) from ⟨k + 1, by rw [unhide HLS]; omega, by simp, unhide HGN, ⟨s6, A6, n6, c6, hz12, by rw [unhide HZN]; unfold mstZ; simp only [decide_eq_true hz]; exact hx9⟩, (hB8.setCell hg12 _).setCell hg12 _⟩)
                    obtain ⟨r0, r1, r2, r3, _⟩ := blk_facts k12
                    obtain ⟨t0, t1, t2, t3, _⟩ := blk_facts k16
                    clear k12 k16 hB8 hx8 hx9 hz12 hb8 hx7 hwd7 kb7 k7 hB7 hz hcc
                    go_wp2_with fail
                    exact ⟨unhide hr, by simp [intOf]; omega⟩
                  · have hcc := cmp_le hz
                    refine (WideCmp_any _ _ _ _ _ hx7 hwd7).mono ?_
                    rintro e w8 ⟨he, hb8⟩
                    generalize cmpI zx zw = cc at hcc he
                    subst he
                    have k12 := kb7.below hb8
                    have hB8 := below_tr hB7 hb8 hB7.size
                    have hwd8 := hwd7.below hb8
                    have hr := hide (show LM w g12 width false l ls (.int .i64 ((k : Int) + 1)) w8 from ⟨k + 1, by rw [unhide HLS]; omega, by simp, unhide HGN, ⟨_, _, _, _, k12, by rw [unhide HZN]; unfold mstZ; simp only [decide_eq_false hz]; exact hwd8⟩, hB8⟩)
                    clear k12 hB8 hwd8 hb8 hx7 hwd7 kb7 k7 hB7 hz
                    go_wp2_with fail
                    all_goals first | (exact ⟨unhide hr, by simp [intOf]; omega⟩) | (exfalso; simp at *; omega)
                case true =>
                  by_cases hz : zx < zw
                  · have hcc := cmp_lt hz
                    refine (WideCmp_any _ _ _ _ _ hx7 hwd7).mono ?_
                    rintro e w8 ⟨he, hb8⟩
                    rw [hcc] at he
                    subst he
                    have k12 := kb7.below hb8
                    have k16 := k7.below hb8
                    have hB8 := below_tr hB7 hb8 hB7.size
                    have hx8 := hx7.below hb8
                    have hx9 := (hx8.far k12.tyb (by decide) 0 (.bool s6)).far (k12.tyb.set _ _ _) (by decide) 1 (.slice A6 n6 c6)
                    have hz12 : Blk ((w8.setCell ⟨g12, 0, none⟩ (.bool s6)).setCell ⟨g12, 1, none⟩ (.slice A6 n6 c6)) g12 30 #[.bool s6, .slice A6 n6 c6] := by have := (k12.set 0 (.bool s6)).set 1 (.slice A6 n6 c6); simpa using this
                    have hr := hide (show LM w g12 width true l ls (.int .i64 ((k : Int) + 1)) ((w8.setCell ⟨g12, 0, none⟩ (.bool s6)).setCell ⟨g12, 1, none⟩ (.slice A6 n6 c6)) from ⟨k + 1, by rw [unhide HLS]; omega, by simp, unhide HGN, ⟨s6, A6, n6, c6, hz12, by rw [unhide HZN]; unfold mstZ; simp only [decide_eq_true hz]; exact hx9⟩, (hB8.setCell hg12 _).setCell hg12 _⟩)
                    obtain ⟨r0, r1, r2, r3, _⟩ := blk_facts k12
                    obtain ⟨t0, t1, t2, t3, _⟩ := blk_facts k16
                    clear k12 k16 hB8 hx8 hx9 hz12 hb8 hx7 hwd7 kb7 k7 hB7 hz hcc
                    go_wp2_with fail
                    exact ⟨unhide hr, by simp [intOf]; omega⟩
                  · have hcc := cmp_ge hz
                    refine (WideCmp_any _ _ _ _ _ hx7 hwd7).mono ?_
                    rintro e w8 ⟨he, hb8⟩
                    generalize cmpI zx zw = cc at hcc he
                    subst he
                    have k12 := kb7.below hb8
                    have hB8 := below_tr hB7 hb8 hB7.size
                    have hwd8 := hwd7.below hb8
                    have hr := hide (show LM w g12 width true l ls (.int .i64 ((k : Int) + 1)) w8 from ⟨k + 1, by rw [unhide HLS]; omega, by simp, unhide HGN, ⟨_, _, _, _, k12, by rw [unhide HZN]; unfold mstZ; simp only [decide_eq_false hz]; exact hwd8⟩, hB8⟩)
                    clear k12 hB8 hwd8 hb8 hx7 hwd7 kb7 k7 hB7 hz
                    go_wp2_with fail
                    all_goals first | (exact ⟨unhide hr, by simp [intOf]; omega⟩) | (exfalso; simp at *; omega)
            · obtain rfl : k = vs.length := by omega
              have htk : ls.take vs.length = ls := List.take_of_length_le (by rw [unhide HLS]; omega)
              rw [htk] at hgk hwd
              have HU := hide ((unhide HM) (by omega) (by omega) hgk)
              obtain ⟨q0, q1, q2, q3, _⟩ := blk_facts kb
              have HB := hide hb
              have HWD := hide hwd
              clear hgk hb kb htk hwd
              generalize (ls.map sv).foldl (mstZ low) (sv l) = zz at *
              go_wp2_with (first
                | (go_at_call 13; (with_reducible refine ((unhide hWr) _ _ _ (unhide HWD)).mono ?_); rintro e w10 ⟨du, b10, rfl, hdu, hb10⟩; have hB10 := below_tr (unhide HB) hb10 (unhide HB).size)
                | (go_at_call 15; (with_reducible refine ((unhide HU) _ hB10).mono ?_); rintro e w11 ⟨gt, rfl, hgt, hb11⟩; have hB11 := below_tr hB10 hb11 hB10.size; have hdu11 := hdu.below hb11)
                | (go_at_call 8; (with_reducible refine (same_any _ _ _ _ hgt hdu11).mono ?_); rintro e w12 ⟨rfl, hb12⟩; have hB12 := below_tr hB11 hb12 hB11.size))
              go_ret
              exact (unhide hP1) _ hB12
theorem lawM_any (w : World) (v R : Value) (width : Int) (low : Bool) (l : List Int) (vs : List Value) (ls : List (List Int)) (h : Ru w v l) (hR : Vs w R vs) (hn : vs.length ≤ maxLen) (hls : ls.length = vs.length) (hs : ∀ k (hk : k < vs.length), Ru w vs[k] (ls.getD k [])) :
    Calls Try.prog 4 #[.int .i64 width, .bool low, v, R] w (POut w) := by
  cases hg : good width l with
  | false => exact lawM_bad w v R width low l vs h hR hn (fun k hk => by obtain ⟨A, c, e, _, _, _, h5⟩ := hs k hk; exact ⟨A, _, c, e, h5⟩) hg
  | true =>
    refine lawM_good w v R width low l vs ls h hR hn hls hs hg (fun hw h20 hall W hb => ?_)
    obtain ⟨hI, hlen⟩ := good_len hg
    have hgd : ∀ k (hk : k < vs.length), Rd .u64 W vs[k] (ls.getD k []) ∧ Gd (wN width) (ls.getD k []) := fun k hk => by
      have h1 := (hs k hk).below hb
      have hk' : k < ls.length := by omega
      have h2 := good_len (hall (ls.getD k []) (by rw [List.getD_eq_getElem?_getD, List.getElem?_eq_getElem hk']; exact List.getElem_mem hk'))
      obtain ⟨_, _, _, _, _, h64, _⟩ := id h1
      exact ⟨h1.rd (by have := wN_le width; omega), h2.2, h64⟩
    have hr : Rd .u64 W v l := (h.below hb).rd (by have := wN_le width; omega)
    obtain ⟨_, _, _, _, _, h64, _⟩ := id h
    have hgl : Gd (wN width) l := ⟨hlen, h64⟩
    have hmem : ∀ x ∈ ls, Gd (wN width) x := fun x hx => by
      obtain ⟨k, hk, rfl⟩ := List.getElem_of_mem hx
      have := (hgd k (by omega)).2
      rwa [List.getD_eq_getElem?_getD, List.getElem?_eq_getElem hk] at this
    unfold wIs at hI
    simp only [decide_eq_true_eq] at hI
    rcases hI with rfl | rfl | rfl | rfl
    · omega
    · omega
    · rw [show wN 128 = 2 by decide] at *
      have hf := (fold2 low ls l hgl hmem).2
      rw [← foldZ low ls l]
      have e : wrl 128 (sv (ls.foldl (mstL low) l)) = ls.foldl (mstL low) l := by
        unfold wrl; rw [if_neg (by decide), show wN 128 = 2 by decide]
        exact (twos_sv hf.2 hf.1).symm
      rw [e]
      exact decMost_128 W v low R vs l ls hr hgl (hR.below hb) h20 hls hgd
    · rw [show wN 256 = 4 by decide] at *
      have hf := (fold4 low ls l hgl hmem).2
      rw [← foldZ low ls l]
      have e : wrl 256 (sv (ls.foldl (mstL low) l)) = ls.foldl (mstL low) l := by
        unfold wrl; rw [if_neg (by decide), show wN 256 = 4 by decide]
        exact (twos_sv hf.2 hf.1).symm
      rw [e]
      exact decMost_256 W v low R vs l ls hr hgl (hR.below hb) h20 hls hgd
theorem add_lit' (b off j : Nat) : (⟨b, off, none⟩ : Addr).add j = ⟨b, off + j, none⟩ := by unfold Addr.add; split <;> simp_all
theorem addr_of {w : World} {a : Addr} {v : Value} (h : w.cell? (a.add 0) = some v) : ∃ b off, a = ⟨b, off, none⟩ ∧ b < w.heap.size := by
  have h0 : a.add 0 = a := by unfold Addr.add; simp
  rw [h0] at h
  obtain ⟨h1, h2⟩ := cell_lt2 h
  obtain ⟨b, off, sp⟩ := a
  have h1' : sp = none := h1
  subst h1'
  exact ⟨b, off, rfl, h2⟩
section
variable {H : Type} {enc : TypeId × Value → H} {P : Program} {w : World} {base : Nat} {held : Bool}
theorem open_rows {t e q : TypeId} {v : Value} {d : DataW H} {p : List MemPlace} (ht : P.underlying t = some (.slice e)) (he : P.underlying e = some (.slice q)) (hq : P.underlying q = some (.int .u64)) (ce : P.cellsOf e = 1) (cq : P.cellsOf q = 1) (hv : ∃ a len cap, v = .slice a len cap)
    (h : DataW.Trod enc P w base (fun _ => true) held t v d p) : ∃ vs ls, Vs w v vs ∧ vs.length ≤ maxLen ∧ List.length ls = vs.length ∧ ∀ k (hk : k < vs.length), Ru w vs[k] (ls.getD k []) := by
  obtain ⟨fuel, h⟩ := h
  obtain ⟨A0, n0, c0, rfl⟩ := hv
  rcases Go.Deep.open_int_rows ht he hq ce cq h with ⟨h1, _⟩ | ⟨a, len, cap, A, L, C, Z, h1, _, hl, hm, _, hrow⟩
  · obtain ⟨rfl, rfl, rfl⟩ : A0 = none ∧ n0 = 0 ∧ c0 = 0 := by simpa [Value.cells] using h1
    exact ⟨[], [], ⟨none, 0, rfl, Nat.le_refl _, Sl.nil_ _ _ _⟩, by simp, rfl, fun k hk => by simp at hk⟩
  · obtain ⟨rfl, rfl, rfl⟩ : A0 = some a ∧ n0 = len ∧ c0 = cap := by simpa [Value.cells] using h1
    refine ⟨(List.range n0).map (fun r => .slice (A r) (L r) (C r)), (List.range n0).map (fun r => (Z r).take (L r)), ⟨some a, c0, by simp, by simpa using hl, ⟨by simp, fun hp => ?_⟩⟩, by simp; omega, by simp, fun k hk => ?_⟩
    · have hp' : 0 < n0 := by simpa using hp
      obtain ⟨b, off, rfl, hb⟩ := addr_of (hrow 0 (by omega)).1
      refine ⟨b, off, rfl, hb, fun j u hu => ?_⟩
      have hj : j < n0 := by have := (List.getElem?_eq_some_iff.1 hu).1; simpa using this
      have := (hrow j (by omega)).1
      rw [add_lit'] at this
      rw [this]
      simp [hj] at hu
      rw [← hu]
    · have hk' : k < n0 := by simpa using hk
      obtain ⟨h2, h3, h4, h5, h6, h7, h8⟩ := hrow k (by omega)
      have hlen : ((Z k).take (L k)).length = L k := by rw [List.length_take]; omega
      have hg : ((List.range n0).map (fun r => (Z r).take (L r))).getD k [] = (Z k).take (L k) := by
        rw [List.getD_eq_getElem?_getD, List.getElem?_map, List.getElem?_range hk']; rfl
      rw [hg]
      refine ⟨A k, C k, by simp [hlen], by omega, ?_, fun x hx => u64_of_wf (h6 x (List.mem_of_mem_take hx)), by omega⟩
      rw [hlen]
      refine ⟨by rw [ivs_length]; exact hlen, fun hp => ?_⟩
      cases hA : A k with
      | none => have := h7 hA; omega
      | some a' =>
        obtain ⟨_, h9⟩ := h8 a' hA
        obtain ⟨b, off, rfl, hb⟩ := addr_of (h9 0 (by omega))
        refine ⟨b, off, rfl, hb, fun j u hu => ?_⟩
        have hj : j < L k := by have := (List.getElem?_eq_some_iff.1 hu).1; simp [ivs] at this; omega
        have := h9 j (by omega)
        rw [add_lit'] at this
        rw [this]
        have hjz : j < (Z k).length := by omega
        simp [ivs, List.getElem?_map, List.getElem?_take, hj, List.getElem?_eq_getElem hjz] at hu
        rw [← hu, List.getD_eq_getElem?_getD, List.getElem?_eq_getElem hjz]
        rfl
end
set_option maxRecDepth 100000 in
theorem lifted4 (os : Os) (started : os.Started) (H : Type) (enc : TypeId × Value → H) :
    ReturnsInHanded {} Try.checked os 4 .any (Rows.fnDecMostSpec.pre6 enc Try.prog Try.f4 Rows.fnDecMostRow.domain false) (Rows.fnDecMostSpec.post enc Try.prog Try.f4 false true false false) := by
  refine returnsInHanded_of_change (C := Try.checked) Try.own' started (by kernel_rfl) Try.func4
    (ChangeSpec.witness6 (enc := enc) (C := Try.checked) false ⟨#[], #[.int .i64 0, .bool false, .slice none 0 0, .slice none 0 0], []⟩ 8 (by kernel_rfl) (by kernel_rfl) (by kernel_rfl) (by kernel_rfl)) ?_
  intro W base args ds gs before hval0 hW hcnd _
  have hval : ∀ (j : Nat) t v, Try.f4.params[j]? = some t → args[j]? = some v → Value.okWide Try.prog W .any base t v := hval0
  have hW' := hW
  obtain ⟨p, q, hA0, hV, rfl, hfz, hnd⟩ := hW
  have hA : DataW.TrodAll enc Try.prog W 0 (fun _ => true) true Try.f4.params.toList args.toList ds p := hA0
  rw [Try.params4] at hA hval
  obtain ⟨v0, vs0, d0, ds0, p0, q0, hargs, rfl, rfl, h0, r0⟩ := trodAll_cons hA
  obtain ⟨v1, vs1, d1, ds1, p1, q1, rfl, rfl, rfl, h1, r1⟩ := trodAll_cons r0
  obtain ⟨v2, vs2, d2, ds2, p2, q2, rfl, rfl, rfl, h2, r2⟩ := trodAll_cons r1
  obtain ⟨v3, vs3, d3, ds3, p3, q3, rfl, rfl, rfl, h3, r3⟩ := trodAll_cons r2
  obtain ⟨rfl, rfl, rfl⟩ := trodAll_nil r3
  obtain rfl : args = #[v0, v1, v2, v3] := by cases args; simp_all
  obtain ⟨rfl, rfl⟩ := trodVars_none hV
  obtain ⟨wd, rfl, _, _, _⟩ := open_int Try.underlying3 (hval 0 3 v0 rfl rfl) h0
  obtain ⟨low, rfl, _, _⟩ := open_bool Try.underlying4 (hval 1 4 v1 rfl rfl) h1
  obtain ⟨A, c, l, hv2, hc, h64, hsl, hn⟩ := open_u64 Try.underlying22 Try.underlying27 (by kernel_rfl) (okWide_slice Try.underlying22 (hval 2 22 v2 rfl rfl)) h2
  obtain ⟨us, ls, hR, hn3, hls, hs⟩ := open_rows Try.underlying38 Try.underlying22 Try.underlying27 (by kernel_rfl) (by kernel_rfl) (okWide_slice Try.underlying38 (hval 3 38 v3 rfl rfl)) h3
  clear hA0 hval0
  refine (lawM_any W v2 v3 wd low l us ls ⟨A, c, hv2, hc, hsl, h64, hn⟩ hR hn3 hls hs).mono fun e W' ⟨he, hb⟩ => ?_
  subst he
  exact ⟨_, rfl, law_post Try.laidOut' (by kernel_rfl) (by kernel_rfl) (by kernel_rfl) Try.underlying4 hW' hb ⟨rfl, rfl, rfl⟩⟩
theorem fnDecMost_over : Rows.fnDecMostRow.holds Try.pinned (OpenSpec.ofChange Rows.fnDecMostSpec) :=
  OpenClaim.holds_of_wide 4 Try.f4 rfl rfl rfl rfl rfl rfl rfl ⟨rfl, rfl, rfl, rfl, rfl⟩ rfl rfl rfl rfl rfl (by kernel_rfl) Try.func4 (by kernel_rfl)
    (of_decide_eq_true (by kernel_rfl)) (by unfold Func.isWrapper; first | (rw [if_pos (by decide +kernel)]; kernel_rfl) | (rw [if_neg (by decide +kernel)]; exact ⟨rfl, rfl⟩))
    (fun os started H enc _ => lifted4 os started H enc)
/-- THE STATEMENT -/
theorem fnDecMost.proved : Rows.FnDecMostSaid := fnDecMost_over
#print axioms fnDecMost.proved
end Go.Proofs.Ytajjnlneacoooaa
